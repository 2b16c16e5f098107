import Derived.Test.Qxb6617328aFind
namespace Go.Proofs.Qxb6617328a
open Go.RowKit

/-- What ZZFindIndex answers: -1 where no member has the key; else the place of the last that has it. -/
def FoundIx (ss : List ByteArray) (key : ByteArray) (r : Int) : Prop :=
  (r = -1 ∧ ∀ i, i < ss.length → at_ ss i ≠ key) ∨ ∃ i : Nat, r = i ∧ i < ss.length ∧ at_ ss i = key ∧ ∀ j, i < j → j < ss.length → at_ ss j ≠ key

def IxPost (ss : List ByteArray) (key : ByteArray) (e : Ending) : Prop := ∃ r : Int, e = .returned (.int .i64 r) ∧ FoundIx ss key r

theorem ptr_same (w : World) (a : Addr) : (binOp .eql 36 (.pointer (some a)) (.pointer (some a))).run Try.prog w = .ok (.bool true) w := by
  obtain ⟨i, hi, _⟩ := info_parts Try.info42
  exact run_eql_ptr_same w a Try.underlying36 hi

theorem ptr_other {w : World} {p g : Nat} {path : ByteArray} {ss : List ByteArray} (h : IsObj w p g path ss) {i j : Nat} (hij : j < i) :
    (binOp .eql 36 (.pointer (some ⟨g, i * 3, none⟩)) (.pointer (some ⟨g, j * 3, none⟩))).run Try.prog w = .ok (.bool false) w := by
  obtain ⟨ti, hi, _, hs, _⟩ := info_parts Try.info42
  obtain ⟨cur, hb, _⟩ := h.row
  refine run_eql_ptr_other w Try.underlying36 hi (by rw [hs]; omega) ?_ hb hb
  intro e
  have : i * 3 = j * 3 := by
    have := congrArg Addr.off e
    exact this
  omega

set_option maxHeartbeats 400000 in
theorem index_any (path : ByteArray) (o : Option Addr) (c : Nat) (ss : List ByteArray) (key : ByteArray) (w : World) (hn : ss.length ≤ 65536) (r : Row w o ss) (hinc : 8 < ss.length → Inc ss) :
    Calls Try.prog 12 #[.string path, .slice o ss.length c, .string key] w fun e w' => IxPost ss key e ∧ Below w.heap.size w w' := by
  have hob := object_any path o c ss w hn r
  have HI : Hid (8 < ss.length → Inc ss) := hinc
  clear r hinc
  go_enter Try.func12, Try.ntmps12
  go_wp2_with fail
  refine hob.mono ?_
  clear hob
  rintro e w1 ⟨⟨p, g, rfl, ho⟩, hb1⟩
  have hfd := find_any p g path ss key w1 ho hn HI.out
  have HO : Hid (IsObj w1 p g path ss) := ho
  have HB1 : Hid (Below w.heap.size w w1) := hb1
  clear ho hb1
  go_wp2_with fail
  refine hfd.mono ?_
  clear hfd
  rintro e w2 ⟨hf, hq⟩
  have HB2 : Hid (Below w.heap.size w w2) := HB1.out.trans (hq.below.mono HB1.out.size)
  have HO2 : Hid (IsObj w2 p g path ss) := HO.out.qt hq
  clear HO HB1 hq
  rcases hf with ⟨rfl, hno⟩ | ⟨i, rfl, hi, hk, hno⟩
  · have HN : Hid (∀ i, i < ss.length → at_ ss i ≠ key) := hno
    clear hno
    go_wp2
    go_ret
    exact ⟨⟨-1, rfl, .inl ⟨rfl, HN.out⟩⟩, HB2.out⟩
  · have HN : Hid (∀ j, i < j → j < ss.length → at_ ss j ≠ key) := hno
    have HK : Hid (at_ ss i = key) := hk
    clear hno hk
    have hmem := HO2.out.mem
    have hsame := ptr_same w2 ⟨g, i * 3, none⟩
    go_wp2
    go_loop [23] (fun j => ∃ t : Nat, t ≤ i ∧ j = .int .i64 t) (fun j => ss.length - (intOf j).toNat)
    case atStart => exact ⟨0, by omega, rfl⟩
    case round =>
      obtain ⟨t, ht, rfl⟩ := hrel
      have htl : (t : Int) < (ss.length : Int) := by omega
      by_cases e : t = i
      · subst e
        go_wp2
        go_ret
        exact ⟨⟨t, rfl, .inr ⟨t, rfl, hi, HK.out, HN.out⟩⟩, HB2.out⟩
      · have hoth := ptr_other HO2.out (show t < i by omega)
        clear hsame
        have ht2 : t < i := by omega
        clear e
        go_wp2
        go_round
        case rel => exact ⟨t + 1, by omega, by go_num⟩
        case measure => simp [intOf]; omega
end Go.Proofs.Qxb6617328a
