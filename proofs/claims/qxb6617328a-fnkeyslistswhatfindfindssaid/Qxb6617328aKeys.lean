import Derived.Test.Qxb6617328aShad
import Derived.Test.Qxb6617328aKeysP
import Derived.Test.Qxb6617328aShelf
import Derived.Sort.OwnSorted
namespace Go.Proofs.Qxb6617328a
open Go.RowKit

theorem enc_bytes (xs : List ByteArray) : (xs.map bytes).map encStr = xs.map Value.string := by
  rw [List.map_map]
  exact List.map_congr_left (fun s _ => congrArg Value.string (of_bytes s))

theorem own_cells {w : World} {B g P : Nat} {xs : List ByteArray} (h : w.ownsRow B 9 1 (.slice (some ⟨g, 0, none⟩) xs.length P) xs.length (xs.map Value.string)) : g < w.heap.size ∧ Cells w g 0 xs := by
  obtain ⟨_, ⟨h, _⟩ | ⟨g', cap, cur, hv, hbase, hb, h1, h2, h3, h4⟩⟩ := h
  · cases h
  · cases hv
    refine ⟨lt_of_block hb, fun i hi => ?_⟩
    rw [Nat.zero_add, cell_of_block hb]
    have e1 : cur[i]? = (xs.map Value.string)[i]? := by
      rw [← h4, List.getElem?_take_of_lt (by omega), Array.getElem?_toList]
    rw [e1]
    simp [at_, List.getD, hi]

/-- slices.Sort at a slice that the call has made. -/
theorem sort_own {w : World} {B g P : Nat} {xs : List ByteArray} (h : w.ownsRow B 9 1 (.slice (some ⟨g, 0, none⟩) xs.length P) xs.length (xs.map Value.string)) (hn : xs.length < 4611686018427387904) :
    Calls Try.prog 23 #[.slice (some ⟨g, 0, none⟩) xs.length P] w fun e w' => e = .returned (.tuple #[]) ∧ (g < w'.heap.size ∧ Cells w' g 0 (sorted xs)) ∧ w.grownBy w' (some g) := by
  obtain ⟨_, ⟨h, _⟩ | ⟨g', cap, cur, hv, hbase, hb, h1, h2, h3, h4⟩⟩ := h
  · cases h
  · cases hv
    have hH : Sort.Holds encStr w g 0 (xs.map bytes).toArray := holds_of_block hb (by rw [enc_bytes, List.length_map]; simpa using h4)
    have hcon := Try.slices_Sort_string g 0 P (xs.map bytes) w hH (lt_of_block hb) (by simpa using hn)
    rw [List.length_map] at hcon
    refine hcon.mono ?_
    rintro e w' ⟨he, n, os, rfl⟩
    have hl : ((xs.map bytes).mergeSort fun x y => decide (x ≤ y)).length = (xs.map bytes).length := by simp
    have ho := ownsRow_sorted (n := n) (os := os) hl hbase hb (by simpa using h1) h2 h3
    have es : ((xs.map bytes).mergeSort fun x y => decide (x ≤ y)).map encStr = (sorted xs).map Value.string := by
      unfold sorted
      rw [List.map_map]
      exact List.map_congr_left (fun l _ => rfl)
    rw [es, List.length_map] at ho
    have e2 : xs.length = (sorted xs).length := (sorted_length xs).symm
    rw [e2] at ho
    exact ⟨he, own_cells ho, grownBy_sorted _⟩

theorem grown_of_below {w w' : World} (h : Below w.heap.size w w') : w.grownBy w' none := ⟨h.os, h.tape, h.output, h.size, fun k hk _ => h.block k hk⟩

/-- What keys leaves. -/
def Listed (ss : List ByteArray) (e : Ending) (w' : World) : Prop := ∃ g off c F, e = .returned (.slice (some ⟨g, off, none⟩) (List.length F) c) ∧ (g < w'.heap.size ∧ Cells w' g off F) ∧ Good ss F

set_option maxHeartbeats 1000000 in
theorem keys_any (p g : Nat) (path : ByteArray) (ss : List ByteArray) (w : World) (ho : IsObj w p g path ss) (hn : ss.length ≤ 65536) (hinc : 8 < ss.length → Inc ss) :
    Calls Try.prog 20 #[.pointer (some ⟨p, 0, none⟩)] w fun e w' => Listed ss e w' ∧ Below w.heap.size w w' := by
  have hmem := ho.mem
  have hlp := ho.lp
  have hlg := ho.lg
  have HO : Hid (IsObj w p g path ss) := ho
  have HI : Hid (8 < ss.length → Inc ss) := hinc
  clear ho hinc
  obtain ⟨i, hi, hz0, hz1, hz2⟩ := info_parts Try.info9
  go_enter Try.func20, Try.ntmps20
  go_wp2_with (at_make; refine wpList_make_own _ rfl _ _ 25 rfl w.heap.size 9 i _ 1 Try.underlying25 hi hz0 hz1 _ _ _ ss.length rfl rfl rfl (by rw [hz2]; omega) (by unfold maxLen; omega) (Nat.le_refl _) ?_)
  intro w1 hown hgrow
  have HO1 : Hid (w1.ownsRow w.heap.size 9 1 (.slice (some ⟨w.heap.size, 0, none⟩) 0 ss.length) 0 []) := hown
  have HB1 : Hid (Below w.heap.size w w1) := (Below.refl _ _).grown hgrow (Nat.le_refl _) (fun k h => by cases h)
  have hmem1 := (HO.out.below hlp hlg HB1.out).mem
  clear hown hgrow
  go_wp2
  go_loopw [3, 17] (fun q k wr => ∃ (t : Nat) (xs : List ByteArray), t ≤ ss.length ∧ k = .int .i64 t ∧ q = .slice (some ⟨w.heap.size, 0, none⟩) xs.length ss.length ∧ Hid (Kept ss t xs) ∧
      Hid (wr.ownsRow w.heap.size 9 1 (.slice (some ⟨w.heap.size, 0, none⟩) xs.length ss.length) xs.length (xs.map Value.string)) ∧ Hid (Below w.heap.size w wr)) (fun _ k _ => ss.length - (intOf k).toNat)
  case atStart => exact ⟨0, [], by omega, rfl, rfl, Kept.start ss, HO1.out, HB1.out⟩
  case round =>
    clear HO1 HB1 hmem1
    obtain ⟨t, xs, ht, rfl, rfl, hK, hO, hB⟩ := hrel
    by_cases hlt : t < ss.length
    · have hlt' : (t : Int) < (ss.length : Int) := by omega
      have hob := HO.out.below hlp hlg hB.out
      have hc0 := hob.key hlt
      obtain ⟨hc1, hc2⟩ := hob.value hlt
      have hwr : w.heap.size ≤ wr.heap.size := hB.out.size
      obtain ⟨x, hx⟩ : ∃ x, x = at_ ss t := ⟨_, rfl⟩
      rw [← hx] at hc0
      have HX : Hid (x = at_ ss t) := hx
      have hal : Below wr.heap.size wr (wr.alloc (.cells #[.string x, .string ByteArray.empty, .bool false] 42)) := (Below.refl _ _).alloc (Nat.le_refl _) _
      have hob1 := hob.below hob.lp hob.lg hal
      have hsh := shad_all p g path ss t _ hob1 hn hlt
      have HSH : Hid (Calls Try.prog 22 #[.pointer (some ⟨p, 0, none⟩), .int .i64 t] (wr.alloc (.cells #[.string x, .string ByteArray.empty, .bool false] 42)) fun e w' => Shad ss t e ∧ Below (wr.alloc (.cells #[.string x, .string ByteArray.empty, .bool false] 42)).heap.size (wr.alloc (.cells #[.string x, .string ByteArray.empty, .bool false] 42)) w') := hsh
      have HO2 : Hid ((wr.alloc (.cells #[.string x, .string ByteArray.empty, .bool false] 42)).ownsRow w.heap.size 9 1 (.slice (some ⟨w.heap.size, 0, none⟩) xs.length ss.length) xs.length (xs.map Value.string)) := hO.out.alloc _
      have HB2 : Hid (Below w.heap.size w (wr.alloc (.cells #[.string x, .string ByteArray.empty, .bool false] 42))) := hB.out.alloc hB.out.size _
      clear hx hsh hob hob1 hal hO hB
      go_wp2_with fail
      refine HSH.out.mono ?_
      clear HSH
      rintro e w2 ⟨hS, hb2⟩
      have HO3 : Hid (w2.ownsRow w.heap.size 9 1 (.slice (some ⟨w.heap.size, 0, none⟩) xs.length ss.length) xs.length (xs.map Value.string)) := HO2.out.kept (grown_of_below hb2) (.inr (by simp [Value.ownBlock]))
      have HB3 : Hid (Below w.heap.size w w2) := HB2.out.trans (hb2.mono HB2.out.size)
      have hcx : w2.cell? ⟨wr.heap.size, 0, none⟩ = some (.string x) := by
        rw [hb2.cell (p := ⟨wr.heap.size, 0, none⟩) (by simp)]
        simp
      have hsz2 : w.heap.size ≤ w2.heap.size := HB3.out.size
      clear hb2 HO2 HB2 hc0 hc1 hc2
      rcases hS with ⟨rfl, hex⟩ | ⟨rfl, hla⟩
      · have HK : Hid (Kept ss (t + 1) xs) := hK.out.skip hlt hex
        clear hex hK
        go_wp2
        go_roundw
        case rel => exact ⟨t + 1, xs, by omega, by go_num, rfl, HK.out, HO3.out, HB3.out⟩
        case measure => simp [intOf]; omega
      · have hlen := hK.out.len
        have HK : Hid (Kept ss (t + 1) (xs ++ [x])) := by
          show Kept _ _ _
          rw [HX.out]
          exact hK.out.push hlt hla
        have HONE : Hid (∀ u ∈ [Value.string x], u.oneCell' = true) := by
          intro u hu
          rw [List.mem_singleton] at hu
          rw [hu]; rfl
        have hfit : xs.length + 1 ≤ ss.length := by omega
        clear hla hK
        go_wp2_with (at_builtin; refine wpList_append_fits _ rfl _ _ 25 rfl w.heap.size 9 i 1 Try.underlying25 hi hz1 w.heap.size xs.length ss.length (xs.map Value.string) rfl (HO3.out.alloc _) ⟨w2.heap.size, 0, none⟩ 1 1 [.string x] rfl rfl (cell_one_new _ _ _) HONE.out hfit ?_)
        intro w3 hown3 hgrow3
        have HO4 : Hid (w3.ownsRow w.heap.size 9 1 (.slice (some ⟨w.heap.size, 0, none⟩) (xs ++ [x]).length ss.length) (xs ++ [x]).length ((xs ++ [x]).map Value.string)) := by
          show World.ownsRow _ _ _ _ _ _ _
          rw [List.length_append, List.map_append]
          exact hown3
        have HB4 : Hid (Below w.heap.size w w3) := (HB3.out.alloc hsz2 _).grown hgrow3 (by simp; omega) (fun k h => by cases h; exact Nat.le_refl _)
        clear hown3 hgrow3 HO3 HB3 hcx
        go_wp2
        go_roundw
        case rel => exact ⟨t + 1, xs ++ [x], by omega, by go_num, by simp, HK.out, HO4.out, HB4.out⟩
        case measure => simp [intOf]; omega
    · have hlt' : ¬ (t : Int) < (ss.length : Int) := by omega
      obtain rfl : t = ss.length := by omega
      have hlen := hK.out.len
      by_cases h8 : (xs.length : Int) ≤ 8
      · have hs := sort_own hO.out (by omega)
        have HG : Hid (Good ss (sorted xs)) := good_few hK.out
        clear hK hO
        go_wp2_with fail
        refine hs.mono ?_
        clear hs
        rintro e w2 ⟨rfl, hc2, hg2⟩
        have HB2 : Hid (Below w.heap.size w w2) := hB.out.grown hg2 hB.out.size (fun k h => by cases h; exact Nat.le_refl _)
        have HC2 : Hid (w.heap.size < w2.heap.size ∧ Cells w2 w.heap.size 0 (sorted xs)) := hc2
        clear hc2 hg2 hB
        go_wp2
        go_ret
        exact ⟨⟨w.heap.size, 0, ss.length, sorted xs, by rw [sorted_length]; rfl, HC2.out, HG.out⟩, HB2.out⟩
      · have HC2 : Hid (w.heap.size < wr.heap.size ∧ Cells wr w.heap.size 0 xs) := own_cells hO.out
        have HG : Hid (Good ss xs) := good_many hK.out (HI.out (by omega))
        clear hK hO
        go_wp2
        go_ret
        exact ⟨⟨w.heap.size, 0, ss.length, xs, rfl, HC2.out, HG.out⟩, hB.out⟩
end Go.Proofs.Qxb6617328a
