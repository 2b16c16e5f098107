import Derived.Test.Qxb6617328aFindIx
namespace Go.Proofs.Qxb6617328a
open Go.RowKit

/-- What shadowed answers: is there a later member of the same key? -/
def Shad (ss : List ByteArray) (i : Nat) (e : Ending) : Prop :=
  (e = .returned (.bool true) ∧ ∃ j, i < j ∧ j < ss.length ∧ at_ ss j = at_ ss i) ∨ (e = .returned (.bool false) ∧ ∀ j, i < j → j < ss.length → at_ ss j ≠ at_ ss i)

theorem IsObj.below {w w' : World} {p g : Nat} {path : ByteArray} {ss : List ByteArray} (h : IsObj w p g path ss) {B : Nat} (hp : p < B) (hg : g < B) (hb : Below B w w') : IsObj w' p g path ss := by
  obtain ⟨h1, h2, ⟨cur, h3, h4⟩, h5, h6⟩ := h
  refine ⟨by rw [hb.cell (p := ⟨p, 0, none⟩) hp]; exact h1, by rw [hb.cell (p := ⟨p, 1, none⟩) hp]; exact h2, ⟨cur, by rw [hb.block g hg]; exact h3, h4⟩, Nat.lt_of_lt_of_le h5 hb.size, Nat.lt_of_lt_of_le h6 hb.size⟩

theorem IsObj.value {w : World} {p g : Nat} {path : ByteArray} {ss : List ByteArray} (h : IsObj w p g path ss) {i : Nat} (hi : i < ss.length) : w.cell? ⟨g, i * 3 + 1, none⟩ = some (.string ByteArray.empty) ∧ w.cell? ⟨g, i * 3 + 2, none⟩ = some (.bool false) := by
  obtain ⟨cur, hb, _, hc⟩ := h.row
  rw [cell_of_block hb, cell_of_block hb]
  exact (hc i hi).2

theorem cell_alloc (w : World) (o : Obj) {b k : Nat} (h : b < w.heap.size) : (w.alloc o).cell? ⟨b, k, none⟩ = w.cell? ⟨b, k, none⟩ :=
  ((Below.refl w.heap.size w).alloc (Nat.le_refl _) o).cell (p := ⟨b, k, none⟩) h

set_option maxHeartbeats 1000000 in
theorem shad_any (p g : Nat) (path : ByteArray) (ss : List ByteArray) (i : Nat) (w : World) (ho : IsObj w p g path ss) (hn : ss.length ≤ 65536) (hi : i + 1 < ss.length) :
    Calls Try.prog 22 #[.pointer (some ⟨p, 0, none⟩), .int .i64 i] w fun e w' => Shad ss i e ∧ Below w.heap.size w w' := by
  have hmem := ho.mem
  have hlp := ho.lp
  have hlg := ho.lg
  have HO : Hid (IsObj w p g path ss) := ho
  have hi' : (i : Int) + 1 < (ss.length : Int) := by omega
  clear ho
  go_enter Try.func22, Try.ntmps22
  go_wp2
  go_loopw [15] (fun k wr => ∃ t : Nat, i + 1 + t ≤ ss.length ∧ k = .int .i64 t ∧ Hid (Below w.heap.size w wr) ∧ Hid (∀ j, i < j → j < i + 1 + t → at_ ss j ≠ at_ ss i)) (fun k _ => ss.length - (intOf k).toNat)
  case atStart => exact ⟨0, by omega, rfl, Below.refl _ _, fun j h1 h2 => by omega⟩
  case round =>
    obtain ⟨t, ht, rfl, hB, hall⟩ := hrel
    by_cases hlt : i + 1 + t < ss.length
    · have hO := HO.out.below hlp hlg hB.out
      have hmem2 := hO.mem
      have hc0 := hO.key hlt
      obtain ⟨hc1, hc2⟩ := hO.value hlt
      have hci := hO.key (i := i) (by omega)
      have hltz : (t : Int) < ((ss.length - (i + 1) : Nat) : Int) := by omega
      have he : (i + 1 + t) * 3 = (i + 1) * 3 + t * 3 := by omega
      rw [he] at hc0 hc1 hc2
      clear he
      have hltz2 : (i : Int) < (ss.length : Int) := by omega
      have hwr : w.heap.size ≤ wr.heap.size := hB.out.size
      have HB2 : ∀ (o : Obj) (n : Nat), Hid (Below w.heap.size w ((wr.alloc o).drewN n)) := fun o n => below_drewN (hB.out.alloc hB.out.size o) n
      have hmem3 : ∀ o, (wr.alloc o).cell? ⟨p, 1, none⟩ = some (Value.slice (some ⟨g, 0, none⟩) ss.length ss.length) := fun o => by
        rw [cell_alloc _ _ (by omega)]; exact hmem2
      have hci3 : ∀ o, (wr.alloc o).cell? ⟨g, i * 3, none⟩ = some (Value.string (at_ ss i)) := fun o => by
        rw [cell_alloc _ _ (by omega)]; exact hci
      obtain ⟨x, hx⟩ : ∃ x, x = at_ ss (i + 1 + t) := ⟨_, rfl⟩
      obtain ⟨y, hy⟩ : ∃ y, y = at_ ss i := ⟨_, rfl⟩
      rw [← hx] at hc0
      rw [← hy] at hci3
      have HX : Hid (x = at_ ss (i + 1 + t)) := hx
      have HY : Hid (y = at_ ss i) := hy
      clear hx hy hO hci
      by_cases hk : x = y
      · have ht1 : (x.toList == y.toList) = true := (eq_true_iff x y).2 hk
        have HF : Hid (∃ j, i < j ∧ j < ss.length ∧ at_ ss j = at_ ss i) := ⟨i + 1 + t, by omega, hlt, by rw [← HX.out, ← HY.out]; exact hk⟩
        clear hk hall
        go_wp2
        go_quiet (fail)
        go_wp2
        go_ret
        exact ⟨.inl ⟨rfl, HF.out⟩, (HB2 _ _).out⟩
      · have ht1 : (x.toList == y.toList) = false := (eq_false_iff x y).2 hk
        have HF : Hid (∀ j, i < j → j < i + 1 + (t + 1) → at_ ss j ≠ at_ ss i) := fun j h1 h2 => by
          by_cases e : j = i + 1 + t
          · rw [e, ← HX.out, ← HY.out]; exact hk
          · exact hall.out j h1 (by omega)
        clear hk hall
        go_wp2
        go_quiet (fail)
        go_wp2
        go_roundw
        case rel => exact ⟨t + 1, by omega, by go_num, (HB2 _ _).out, HF.out⟩
        case measure => simp [intOf]; omega
    · have hltz : ¬ (t : Int) < ((ss.length - (i + 1) : Nat) : Int) := by omega
      have HF : Hid (∀ j, i < j → j < ss.length → at_ ss j ≠ at_ ss i) := fun j h1 h2 => hall.out j h1 (by omega)
      clear hall
      go_wp2
      go_ret
      exact ⟨.inr ⟨rfl, HF.out⟩, hB.out⟩

set_option maxHeartbeats 1000000 in
theorem shad_last (p g : Nat) (path : ByteArray) (ss : List ByteArray) (i : Nat) (w : World) (ho : IsObj w p g path ss) (hn : ss.length ≤ 65536) (hi : ss.length = i + 1) :
    Calls Try.prog 22 #[.pointer (some ⟨p, 0, none⟩), .int .i64 i] w fun e w' => Shad ss i e ∧ Below w.heap.size w w' := by
  have hmem := ho.mem
  clear ho
  rw [hi] at hmem hn
  have HF : Hid (∀ j, i < j → j < ss.length → at_ ss j ≠ at_ ss i) := fun j h1 h2 => by omega
  clear hi
  go_enter Try.func22, Try.ntmps22
  go_wp2
  go_loopw [15] (fun k wr => k = .int .i64 0 ∧ w = wr) (fun k _ => 3 - (intOf k).toNat)
  case atStart => exact ⟨rfl, rfl⟩
  case round =>
    obtain ⟨rfl, rfl⟩ := hrel
    go_wp2
    go_ret
    exact ⟨.inr ⟨rfl, HF.out⟩, Below.refl _ _⟩

theorem shad_all (p g : Nat) (path : ByteArray) (ss : List ByteArray) (i : Nat) (w : World) (ho : IsObj w p g path ss) (hn : ss.length ≤ 65536) (hi : i < ss.length) :
    Calls Try.prog 22 #[.pointer (some ⟨p, 0, none⟩), .int .i64 i] w fun e w' => Shad ss i e ∧ Below w.heap.size w w' := by
  by_cases h : i + 1 < ss.length
  · exact shad_any p g path ss i w ho hn h
  · exact shad_last p g path ss i w ho hn (by omega)
end Go.Proofs.Qxb6617328a
