import Derived.Test.Qxb6618136aPar
namespace Go.Proofs.Qxb6618136a
open Go.RowKit

def Blank (s : ByteArray) (k : Nat) : Prop := ∃ h : k < s.size, s[k].toNat = 32 ∨ s[k].toNat = 9

theorem le_sk (s : ByteArray) (j : Nat) : j ≤ sk s j := by unfold sk; omega

theorem sk_facts (s : ByteArray) : ∀ d j, s.size - j ≤ d → j ≤ s.size → sk s j ≤ s.size ∧ (∀ k, j ≤ k → k < sk s j → Blank s k) ∧ (sk s j < s.size → ¬ Blank s (sk s j)) := by
  intro d
  induction d with
  | zero =>
    intro j h1 h2
    rw [sk_end (by omega)]
    exact ⟨h2, fun k h3 h4 => by omega, fun h => by omega⟩
  | succ d ih =>
    intro j h1 h2
    by_cases h : j < s.size
    · by_cases hb : s[j].toNat = 32 ∨ s[j].toNat = 9
      · obtain ⟨i1, i2, i3⟩ := ih (j + 1) (by omega) (by omega)
        rw [sk_blank h hb]
        refine ⟨i1, fun k h3 h4 => ?_, i3⟩
        by_cases e : k = j
        · subst e; exact ⟨h, hb⟩
        · exact i2 k (by omega) h4
      · rw [sk_stop h hb]
        exact ⟨h2, fun k h3 h4 => by omega, fun _ hB => by obtain ⟨_, hB⟩ := hB; exact hb hB⟩
    · rw [sk_end (by omega)]
      exact ⟨h2, fun k h3 h4 => by omega, fun h => by omega⟩

theorem sk_le {s : ByteArray} {j : Nat} (h : j ≤ s.size) : sk s j ≤ s.size := (sk_facts s _ j (Nat.le_refl _) h).1
theorem sk_between {s : ByteArray} {j k : Nat} (h : j ≤ s.size) (h1 : j ≤ k) (h2 : k < sk s j) : Blank s k := (sk_facts s _ j (Nat.le_refl _) h).2.1 k h1 h2
theorem sk_at {s : ByteArray} {j : Nat} (h : j ≤ s.size) (h1 : sk s j < s.size) : ¬ Blank s (sk s j) := (sk_facts s _ j (Nat.le_refl _) h).2.2 h1
theorem sk_idem {s : ByteArray} {j : Nat} (h : j ≤ s.size) : sk s (sk s j) = sk s j := by
  by_cases h1 : sk s j < s.size
  · exact sk_stop h1 (fun hb => sk_at h h1 ⟨h1, hb⟩)
  · exact sk_end (by omega)

set_option maxHeartbeats 400000 in
theorem skip_out (p : Nat) (s : ByteArray) (pos depth : Int) (w : World) (hj : (s.size : Int) ≤ pos) (hp : IsP w p s pos depth) :
    Calls Try.prog 12 #[.pointer (some ⟨p, 0, none⟩)] w fun e w' => e = .returned (.tuple #[]) ∧ IsP w' p s pos depth ∧ Below p w w' := by
  have HP : Hid (IsP w p s pos depth) := hp
  have h0 := hp.text
  have h1 := hp.pos
  have hd : decide (pos < (s.size : Int)) = false := decide_eq_false (by omega)
  clear hp
  go_enter Try.func12, Try.ntmps12
  go_wp2
  go_loopg [] 1 (fun kx wr => w = wr)
  case atStart => rfl
  case round =>
    subst hrel
    go_wp2
    go_quiet (fail)
    go_wp2
    go_end0
    exact ⟨rfl, HP.out.drewN nq, below_drewN (Below.refl _ _) nq⟩

set_option maxHeartbeats 400000 in
theorem zzskip_of (p : Nat) (w : World) (Q : World → Prop) (h : Calls Try.prog 12 #[.pointer (some ⟨p, 0, none⟩)] w fun e w' => e = .returned (.tuple #[]) ∧ Q w') :
    Calls Try.prog 7 #[.pointer (some ⟨p, 0, none⟩)] w fun e w' => e = .returned (.tuple #[]) ∧ Q w' := by
  have H : Hid (Calls Try.prog 12 #[.pointer (some ⟨p, 0, none⟩)] w fun e w' => e = .returned (.tuple #[]) ∧ Q w') := h
  clear h
  go_enter Try.func7, Try.ntmps7
  go_wp2_with fail
  refine H.out.mono ?_
  clear H
  rintro e w1 ⟨rfl, hq⟩
  have HQ : Hid (Q w1) := hq
  clear hq
  go_wp2
  go_end0
  exact ⟨rfl, HQ.out⟩

set_option maxHeartbeats 400000 in
theorem fields_any (p : Nat) (s : ByteArray) (pos depth : Int) (w : World) (hp : IsP w p s pos depth) :
    Calls Try.prog 8 #[.pointer (some ⟨p, 0, none⟩)] w fun e w' => e = .returned (.tuple #[.string s, .int .i64 pos, .int .i64 depth]) ∧ IsP w' p s pos depth ∧ Below p w w' := by
  have HP : Hid (IsP w p s pos depth) := hp
  have h0 := hp.text
  have h1 := hp.pos
  have h2 := hp.depth
  clear hp
  go_enter Try.func8, Try.ntmps8
  go_wp2
  go_quiet (fail)
  go_wp2
  go_ret3
  exact ⟨rfl, HP.out.drewN nq, below_drewN (Below.refl _ _) nq⟩

/-- What ZZMakeParser leaves. -/
def Made (w : World) (s : ByteArray) (pos depth : Int) (e : Ending) (w' : World) : Prop := ∃ p, e = .returned (.pointer (some ⟨p, 0, none⟩)) ∧ w.heap.size ≤ p ∧ IsP w' p s pos depth

set_option maxHeartbeats 400000 in
theorem make_any (s : ByteArray) (pos depth : Int) (w : World) :
    Calls Try.prog 6 #[.string s, .int .i64 pos, .int .i64 depth] w fun e w' => Made w s pos depth e w' ∧ Below w.heap.size w w' := by
  go_enter Try.func6, Try.ntmps6
  go_wp2
  go_ret
  exact ⟨⟨w.heap.size, rfl, Nat.le_refl _, ⟨by simp, by simp, by simp, by simp⟩⟩, (Below.refl _ _).alloc (Nat.le_refl _) _⟩

def isB (c : Nat) : Bool := c == 32 || c == 9
theorem isB_true {c : Nat} (h : c = 32 ∨ c = 9) : isB c = true := by
  unfold isB
  rcases h with rfl | rfl <;> rfl
theorem isB_false {c : Nat} (h : ¬ (c = 32 ∨ c = 9)) : isB c = false := by
  unfold isB
  have h1 : (c == 32) = false := beq_eq_false_iff_ne.2 (by omega)
  have h2 : (c == 9) = false := beq_eq_false_iff_ne.2 (by omega)
  rw [h1, h2]; rfl

set_option maxHeartbeats 400000 in
theorem blank_any (c : Nat) (w : World) : Calls Try.prog 9 #[.int .u8 c] w fun e w' => e = .returned (.bool (isB c)) ∧ w' = w := by
  by_cases h1 : c = 32
  · subst h1
    go_enter Try.func9, Try.ntmps9
    go_wp2
    go_ret
    exact ⟨rfl, rfl⟩
  · by_cases h2 : c = 9
    · subst h2
      go_enter Try.func9, Try.ntmps9
      go_wp2
      go_ret
      exact ⟨rfl, rfl⟩
    · have t1 : ((c : Int) == 32) = false := beq_eq_false_iff_ne.2 (by omega)
      have t2 : ((c : Int) == 9) = false := beq_eq_false_iff_ne.2 (by omega)
      have K : Hid (isB c = false) := isB_false (by omega)
      clear h1 h2
      go_enter Try.func9, Try.ntmps9
      go_wp2
      go_ret
      exact ⟨by rw [K.out]; rfl, rfl⟩

/-- It hands back a Bool; where that is true, p holds. -/
def Says (e : Ending) (p : Prop) : Prop := ∃ r : Bool, e = .returned (.bool r) ∧ (r = true → p)
theorem Says.no {p : Prop} : Says (.returned (.bool false)) p := ⟨false, rfl, fun h => by cases h⟩
theorem Says.yes {p : Prop} (h : p) : Says (.returned (.bool true)) p := ⟨true, rfl, fun _ => h⟩

set_option maxHeartbeats 400000 in
theorem bytes_skip (s : ByteArray) (i k : Int) (w : World) (hs : s.size ≤ maxLen) :
    Calls Try.prog 5 #[.string s, .int .i64 i, .int .i64 k] w fun e w' => Says e (s.size ≤ 1048576) ∧ w' = w := by
  unfold maxLen at hs
  by_cases h : (1048576 : Int) < (s.size : Int)
  · go_enter Try.func5, Try.ntmps5
    go_wp2
    go_ret
    exact ⟨Says.no, rfl⟩
  · have h2 : s.size ≤ 1048576 := by omega
    have H2 : Hid (s.size ≤ 1048576) := h2
    clear h2
    go_enter Try.func5, Try.ntmps5
    go_wp2
    go_ret
    exact ⟨Says.yes (by first | exact H2.out | trivial), rfl⟩

set_option maxHeartbeats 400000 in
theorem bytes_next (s : ByteArray) (i k c : Int) (w : World) (hs : s.size ≤ maxLen) :
    Calls Try.prog 10 #[.string s, .int .i64 i, .int .i64 k, .int .u8 c] w fun e w' => Says e (s.size ≤ 1048576) ∧ w' = w := by
  unfold maxLen at hs
  by_cases h : (1048576 : Int) < (s.size : Int)
  · go_enter Try.func10, Try.ntmps10
    go_wp2
    go_ret
    exact ⟨Says.no, rfl⟩
  · have h2 : s.size ≤ 1048576 := by omega
    have H2 : Hid (s.size ≤ 1048576) := h2
    clear h2
    go_enter Try.func10, Try.ntmps10
    go_wp2
    go_ret
    exact ⟨Says.yes (by first | exact H2.out | trivial), rfl⟩
end Go.Proofs.Qxb6618136a
