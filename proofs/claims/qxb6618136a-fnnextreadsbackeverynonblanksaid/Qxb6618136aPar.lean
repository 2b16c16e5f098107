import Derived.Test.Qxb6618136aProg
import Derived.WalkKit
import Derived.WalkSpells
import Derived.WalkLawsBesides
import Derived.Deep.QuietTactic
import Derived.BigQuiet
import Derived.Deep.DeepCutAuto
import Derived.Deep.LoopGhost
import Derived.Lib.Strings
namespace Go.Proofs.Qxb6618136a
open Go.RowKit

/-! ### the plain part: bytes' values, blanks -/
def sfx (s : ByteArray) (j : Nat) : List Nat := (s.data.toList.map UInt8.toNat).drop j
theorem sfx_cons (s : ByteArray) (j : Nat) (h : j < s.size) : sfx s j = s[j].toNat :: sfx s (j + 1) := by
  unfold sfx
  have hl : j < (s.data.toList.map UInt8.toNat).length := by simpa using h
  rw [List.drop_eq_getElem_cons hl, List.getElem_map]
  rfl
theorem sfx_nil (s : ByteArray) (j : Nat) (h : s.size ≤ j) : sfx s j = [] := by
  unfold sfx
  exact List.drop_eq_nil_of_le (by simpa using h)

/-- How many blanks stand ahead. -/
def bl : List Nat → Nat
  | [] => 0
  | c :: r => if c = 32 ∨ c = 9 then bl r + 1 else 0
/-- Where skipSpace stops, from place j on. -/
def sk (s : ByteArray) (j : Nat) : Nat := j + bl (sfx s j)
theorem sk_blank {s : ByteArray} {j : Nat} (h : j < s.size) (hb : s[j].toNat = 32 ∨ s[j].toNat = 9) : sk s j = sk s (j + 1) := by
  unfold sk
  rw [sfx_cons s j h]
  simp only [bl]
  rw [if_pos hb]
  omega
theorem sk_stop {s : ByteArray} {j : Nat} (h : j < s.size) (hb : ¬ (s[j].toNat = 32 ∨ s[j].toNat = 9)) : sk s j = j := by
  unfold sk
  rw [sfx_cons s j h]
  simp only [bl]
  rw [if_neg hb]
  rfl
theorem sk_end {s : ByteArray} {j : Nat} (h : s.size ≤ j) : sk s j = j := by
  unfold sk
  rw [sfx_nil s j h]
  rfl

/-- A parser at block p. -/
structure IsP (w : World) (p : Nat) (s : ByteArray) (pos depth : Int) : Prop where
  text : w.cell? ⟨p, 0, none⟩ = some (.string s)
  pos : w.cell? ⟨p, 1, none⟩ = some (.int .i64 pos)
  depth : w.cell? ⟨p, 2, none⟩ = some (.int .i64 depth)
  free : w.frozen? ⟨p, 1, none⟩ = false

theorem IsP.set {w : World} {p : Nat} {s : ByteArray} {pos depth : Int} (h : IsP w p s pos depth) (q : Int) : IsP (w.setCell ⟨p, 1, none⟩ (.int .i64 q)) p s q depth := by
  refine ⟨?_, ?_, ?_, ?_⟩
  · rw [World.cell?_setCell_other _ _ _ _ (by simp)]; exact h.text
  · exact World.cell?_setCell_same _ _ _ h.pos
  · rw [World.cell?_setCell_other _ _ _ _ (by simp)]; exact h.depth
  · rw [World.frozen?_setCell]; exact h.free
theorem IsP.step {w : World} {p : Nat} {s : ByteArray} {k : Nat} {depth : Int} (h : IsP w p s k depth) : IsP (w.setCell ⟨p, 1, none⟩ (.int .i64 ((k : Int) + 1))) p s ((k + 1 : Nat) : Int) depth := by
  rw [show ((k + 1 : Nat) : Int) = (k : Int) + 1 from by omega]
  exact h.set _
theorem IsP.drewN {w : World} {p : Nat} {s : ByteArray} {pos depth : Int} (h : IsP w p s pos depth) (n : Nat) : IsP (w.drewN n) p s pos depth := ⟨h.text, h.pos, h.depth, h.free⟩

set_option maxHeartbeats 1000000 in
theorem skip_any (p : Nat) (s : ByteArray) (j : Nat) (depth : Int) (w : World) (hs : s.size ≤ 65536) (hj : j ≤ s.size) (hp : IsP w p s j depth) :
    Calls Try.prog 12 #[.pointer (some ⟨p, 0, none⟩)] w fun e w' => e = .returned (.tuple #[]) ∧ IsP w' p s (sk s j) depth ∧ Below p w w' := by
  have HP : Hid (IsP w p s j depth) := hp
  clear hp
  go_enter Try.func12, Try.ntmps12
  go_wp2
  go_loopg [] s.size (fun kx wr => ∃ k : Nat, k ≤ s.size ∧ s.size - k ≤ kx ∧ Hid (IsP wr p s k depth) ∧ Hid (sk s j = sk s k) ∧ Hid (Below p w wr))
  case atStart => exact ⟨j, hj, by omega, HP.out, rfl, Below.refl _ _⟩
  case round =>
    clear HP
    obtain ⟨k, hk, hkx, hP, hsk, hB⟩ := hrel
    have h0 := hP.out.text
    have h1 := hP.out.pos
    have hf := hP.out.free
    by_cases hlt : k < s.size
    · have hlt' : (k : Int) < (s.size : Int) := by omega
      by_cases hb : s[k].toNat = 32 ∨ s[k].toNat = 9
      · have hsk2 : Hid (sk s j = sk s (k + 1)) := by show _ = _; rw [hsk.out, sk_blank hlt hb]
        by_cases h32 : s[k].toNat = 32
        · have t1 : ((s[k].toNat : Int) == 32) = true := beq_iff_eq.2 (by omega)
          clear hb h32 hsk
          go_wp2
          go_quiet (fail)
          go_wp2
          go_roundg (s.size - (k + 1))
          case measure => omega
          case rel => exact ⟨k + 1, by omega, Nat.le_refl _, (hP.out.drewN nq).step, hsk2.out, (below_drewN hB.out nq).setCell (Nat.le_refl _) _⟩
        · have t1 : ((s[k].toNat : Int) == 32) = false := beq_eq_false_iff_ne.2 (by omega)
          have t2 : ((s[k].toNat : Int) == 9) = true := beq_iff_eq.2 (by omega)
          clear hb h32 hsk
          go_wp2
          go_quiet (fail)
          go_wp2
          go_roundg (s.size - (k + 1))
          case measure => omega
          case rel => exact ⟨k + 1, by omega, Nat.le_refl _, (hP.out.drewN nq).step, hsk2.out, (below_drewN hB.out nq).setCell (Nat.le_refl _) _⟩
      · have hsk2 : Hid (sk s j = k) := by show _ = _; rw [hsk.out, sk_stop hlt hb]
        have t1 : ((s[k].toNat : Int) == 32) = false := beq_eq_false_iff_ne.2 (by omega)
        have t2 : ((s[k].toNat : Int) == 9) = false := beq_eq_false_iff_ne.2 (by omega)
        clear hb hsk
        go_wp2
        go_quiet (fail)
        go_wp2
        go_end0
        exact ⟨rfl, by rw [hsk2.out]; exact hP.out.drewN nq, below_drewN hB.out nq⟩
    · have hd : decide ((k : Int) < (s.size : Int)) = false := decide_eq_false (by omega)
      have hsk2 : Hid (sk s j = k) := by show _ = _; rw [hsk.out, sk_end (by omega)]
      clear hsk
      go_wp2
      go_quiet (fail)
      go_wp2
      go_end0
      exact ⟨rfl, by rw [hsk2.out]; exact hP.out.drewN nq, below_drewN hB.out nq⟩
end Go.Proofs.Qxb6618136a
