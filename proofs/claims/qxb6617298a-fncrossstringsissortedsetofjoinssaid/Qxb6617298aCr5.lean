import Derived.Test.Qxb6617298aCrP
import Derived.Test.Qxb6617298aCp
import Derived.Test.Qxb6617298aShelf
import Derived.Sort.OwnSorted
import Derived.Lib.RowBridge
namespace Go.Proofs.Qxb6617298a
open Go.RowKit

theorem Row.below {w w' : World} {o : Option Addr} {ss : List ByteArray} (h : Row w o ss) (hlt : ∀ x, o = some x → x.block < w.heap.size ∨ ss = []) (hb : Below w.heap.size w w') : Row w' o ss := by
  obtain ⟨h1, h2, h3 | ⟨b, off, h4, h5⟩⟩ := h
  · exact ⟨h1, h2, .inl h3⟩
  · rcases hlt _ h4 with hl | h0
    · exact ⟨h1, h2, .inr ⟨b, off, h4, fun i hi => by rw [hb.cell (p := ⟨b, off + i, none⟩) hl]; exact h5 i hi⟩⟩
    · exact ⟨h1, h2, .inl h0⟩

theorem Row.lt {w : World} {o : Option Addr} {ss : List ByteArray} (h : Row w o ss) : ∀ x, o = some x → x.block < w.heap.size ∨ ss = [] := by
  intro x hx
  obtain ⟨h1, h2, h3 | ⟨b, off, h4, h5⟩⟩ := h
  · exact .inr h3
  · rw [h4] at hx
    cases hx
    by_cases h0 : ss = []
    · exact .inr h0
    · have hpos : 0 < ss.length := List.length_pos_iff.2 h0
      exact .inl (lt_of_cell (h5 0 hpos))

theorem Row.later {w w' : World} {o : Option Addr} {ss : List ByteArray} (h : Row w o ss) (hb : Below w.heap.size w w') : Row w' o ss := h.below h.lt hb

theorem fits (k t n m P : Nat) (hk : k < n) (ht : t < m) (hP : P = n * m) : k * m + t + 1 ≤ P := by
  subst hP
  have h1 : (k + 1) * m ≤ n * m := Nat.mul_le_mul_right m hk
  rw [Nat.succ_mul] at h1
  omega

set_option maxHeartbeats 400000 in
theorem cross_big (oa : Option Addr) (ca : Nat) (sa : List ByteArray) (ob : Option Addr) (cb : Nat) (sb : List ByteArray) (w : World) (P : Nat) (hP : Hid (P = sa.length * sb.length)) (hbig : 64 < P) (hle : P ≤ 16777216) :
    Calls Try.prog 14 #[.slice oa sa.length ca, .slice ob sb.length cb] w fun e w' => e = .returned (.slice none 0 0) ∧ w' = w := by
  have hmul : (sa.length : Int) * (sb.length : Int) = (P : Int) := by rw [hP.out]; exact (Int.natCast_mul _ _).symm
  go_enter Try.func14, Try.ntmps14
  go_wp2
  go_ret
  exact ⟨rfl, rfl⟩

theorem enc_bytes (xs : List ByteArray) : (xs.map bytes).map encStr = xs.map Value.string := by
  rw [List.map_map]
  exact List.map_congr_left (fun s _ => congrArg Value.string (of_bytes s))

/-- slices.Sort at a slice that the call has made. -/
theorem sort_own {w : World} {B g P : Nat} {xs : List ByteArray} (h : w.ownsRow B 9 1 (.slice (some ⟨g, 0, none⟩) xs.length P) xs.length (xs.map Value.string)) (hn : xs.length < 4611686018427387904) :
    Calls Try.prog 19 #[.slice (some ⟨g, 0, none⟩) xs.length P] w fun e w' => e = .returned (.tuple #[]) ∧
      w'.ownsRow B 9 1 (.slice (some ⟨g, 0, none⟩) xs.length P) xs.length (((xs.map bytes).mergeSort fun x y => decide (x ≤ y)).map encStr) ∧ w.grownBy w' (some g) := by
  obtain ⟨_, ⟨h, _⟩ | ⟨g', cap, cur, hv, hbase, hb, h1, h2, h3, h4⟩⟩ := h
  · cases h
  · cases hv
    have hH : Sort.Holds encStr w g 0 (xs.map bytes).toArray := holds_of_block hb (by rw [enc_bytes, List.length_map]; simpa using h4)
    have hcon := Try.slices_Sort_string g 0 P (xs.map bytes) w hH (lt_of_block hb) (by simpa using hn)
    rw [List.length_map] at hcon
    refine hcon.mono ?_
    rintro e w' ⟨he, n, os, rfl⟩
    have hl : ((xs.map bytes).mergeSort fun x y => decide (x ≤ y)).length = (xs.map bytes).length := by simp
    have ho := ownsRow_sorted (n := n) (os := os) hl hbase hb (by simpa using h1) h2 h3
    rw [List.length_map] at ho
    exact ⟨he, ho, grownBy_sorted _⟩

/-- slices.Compact behind it. -/
theorem compact_own {w : World} {B g P n : Nat} {ls : List (List UInt8)} (h : w.ownsRow B 9 1 (.slice (some ⟨g, 0, none⟩) n P) n (ls.map encStr)) (hn : n < 4611686018427387904) :
    Calls Try.prog 20 #[.slice (some ⟨g, 0, none⟩) n P] w fun e w' => e = .returned (.slice (some ⟨g, 0, none⟩) (Lib.compact ls).length P) ∧ g < w'.heap.size ∧
      Cells w' g 0 ((Lib.compact ls).map ofBytes) ∧ w.grownBy w' (some g) := by
  obtain ⟨hl0, ⟨h, _⟩ | ⟨g', cap, cur, hv, hbase, hb, h1, h2, h3, h4⟩⟩ := h
  · cases h
  · cases hv
    have hl : ls.length = n := by simpa using hl0
    subst hl
    have hH : Sort.Holds encStr w g 0 ls.toArray := holds_of_block hb (by simpa using h4)
    refine (Try.slices_Compact_string g 0 P ls w hH (by omega) h1).mono ?_
    rintro e w' ⟨he, q, rfl⟩
    have hcl := Lib.compact_length_le ls
    obtain ⟨ts, hts⟩ : ∃ ts, ts = Lib.compact ls ++ List.replicate (ls.length - (Lib.compact ls).length) [] := ⟨_, rfl⟩
    have htl : ts.length = ls.length := by rw [hts]; simp; omega
    rw [← hts]
    have hb' := heap_sorted (n := q) (os := #[]) ts.toArray hb
    rw [Sort.grow_empty] at hb'
    have hg' := grownBy_sorted (w := w) (g := g) (n := q) (os := #[]) ts.toArray
    rw [Sort.grow_empty] at hg'
    refine ⟨he, lt_of_block hb', ?_, hg'⟩
    intro i hi
    rw [List.length_map] at hi
    rw [Nat.zero_add, cell_of_block hb']
    have ht := take_putCells cur ts (by omega)
    have e1 : (Sort.putCells encStr 0 ts.toArray cur)[i]? = (ts.map encStr)[i]? := by
      rw [← ht, List.getElem?_take_of_lt (by omega), Array.getElem?_toList]
    rw [e1]
    have e2 : ts[i]? = some (Lib.compact ls)[i] := by
      rw [hts, List.getElem?_append_left hi]
      exact List.getElem?_eq_getElem hi
    rw [List.getElem?_map, e2]
    simp [List.getD, hi, ofBytes, encStr]

def Fits (sa sb : List ByteArray) : Prop := ∀ i j, i < sa.length → j < sb.length → (at_ sa i).size + (at_ sb j).size ≤ 256

/-- What crossStrings leaves, at 64 pairs or fewer. -/
def Crossed (sa sb : List ByteArray) (e : Ending) (w' : World) : Prop :=
  (¬ Fits sa sb ∧ e = .returned (.slice none 0 0)) ∨ (Fits sa sb ∧ ∃ g c, e = .returned (.slice (some ⟨g, 0, none⟩) (gotOf sa sb).length c) ∧ g < w'.heap.size ∧ Cells w' g 0 (gotOf sa sb))

set_option maxHeartbeats 1000000 in
theorem cross_any (oa : Option Addr) (ca : Nat) (sa : List ByteArray) (ob : Option Addr) (cb : Nat) (sb : List ByteArray) (w : World) (P : Nat) (hP : Hid (P = sa.length * sb.length)) (hle : P ≤ 64) (ra : Row w oa sa) (rb : Row w ob sb) :
    Calls Try.prog 14 #[.slice oa sa.length ca, .slice ob sb.length cb] w fun e w' => Crossed sa sb e w' ∧ Below w.heap.size w w' := by
  have hmul : (sa.length : Int) * (sb.length : Int) = (P : Int) := by rw [hP.out]; exact (Int.natCast_mul _ _).symm
  have na := ra.1
  have nb := rb.1
  have RA : Hid (Row w oa sa) := ra
  have RB : Hid (Row w ob sb) := rb
  clear ra rb
  obtain ⟨i, hi, hz0, hz1, hz2⟩ := info_parts Try.info9
  go_enter Try.func14, Try.ntmps14
  go_wp2_with (at_make; refine wpList_make_own _ rfl _ _ 22 rfl w.heap.size 9 i _ 1 Try.underlying22 hi hz0 hz1 _ _ _ P rfl rfl rfl (by rw [hz2]; omega) (by unfold maxLen; omega) (Nat.le_refl _) ?_)
  intro w1 hown hgrow
  have HO : Hid (w1.ownsRow w.heap.size 9 1 (.slice (some ⟨w.heap.size, 0, none⟩) 0 P) 0 []) := hown
  have HB : Hid (Below w.heap.size w w1) := (Below.refl _ _).grown hgrow (Nat.le_refl _) (fun k h => by cases h)
  clear hown hgrow
  go_wp2
  go_loopw [5, 24] (fun p k wr => ∃ (k' : Nat) (xs : List ByteArray), k' ≤ sa.length ∧ k = .int .i64 k' ∧ p = .slice (some ⟨w.heap.size, 0, none⟩) xs.length P ∧ Hid (xs = prodTo sa sb k') ∧
      Hid (wr.ownsRow w.heap.size 9 1 (.slice (some ⟨w.heap.size, 0, none⟩) xs.length P) xs.length (xs.map Value.string)) ∧ Hid (Below w.heap.size w wr) ∧ Hid (∀ i j, i < k' → j < sb.length → (at_ sa i).size + (at_ sb j).size ≤ 256)) (fun _ k _ => sa.length - (intOf k).toNat)
  case atStart => exact ⟨0, [], by omega, rfl, rfl, rfl, HO.out, HB.out, fun i j h => by omega⟩
  case round =>
    clear HO HB
    obtain ⟨k_, xs, hk, rfl, rfl, hxs, hO, hB, hall⟩ := hrel
    by_cases hka : k_ < sa.length
    · have hka' : (k_ : Int) < (sa.length : Int) := by omega
      obtain ⟨ba, fa, rfl, hca, za⟩ := (RA.out.later hB.out).at hka
      obtain ⟨x, hx⟩ : ∃ x, x = at_ sa k_ := ⟨_, rfl⟩
      rw [← hx] at hca za
      have HX : Hid (x = at_ sa k_) := hx
      clear hx
      go_wp2
      go_loopw [5, 30] (fun p k wr => ∃ (t : Nat) (xs : List ByteArray), t ≤ sb.length ∧ k = .int .i64 t ∧ p = .slice (some ⟨w.heap.size, 0, none⟩) xs.length P ∧ Hid (xs = prodTo sa sb k_ ++ rowTo x sb t) ∧
          Hid (wr.ownsRow w.heap.size 9 1 (.slice (some ⟨w.heap.size, 0, none⟩) xs.length P) xs.length (xs.map Value.string)) ∧ Hid (Below w.heap.size w wr) ∧ Hid (∀ j, j < t → x.size + (at_ sb j).size ≤ 256)) (fun _ k _ => sb.length - (intOf k).toNat)
      case atStart => exact ⟨0, xs, by omega, rfl, rfl, by show _ = _; rw [hxs.out]; simp [rowTo], hO.out, hB.out, fun j h => by omega⟩
      case round =>
        clear hxs hO hB hca
        obtain ⟨t, ys, ht, rfl, rfl, hys, hO, hB, hrow⟩ := hrel
        by_cases htb : t < sb.length
        · have htb' : (t : Int) < (sb.length : Int) := by omega
          obtain ⟨bb, fb, rfl, hcb, zb⟩ := (RB.out.later hB.out).at htb
          obtain ⟨y, hy⟩ : ∃ y, y = at_ sb t := ⟨_, rfl⟩
          rw [← hy] at hcb zb
          have HY : Hid (y = at_ sb t) := hy
          clear hy
          by_cases hbg : (256 : Int) < (x.size : Int) + (y.size : Int)
          · have hbad : Hid (¬ Fits sa sb) := by
              intro h
              have := h k_ t hka htb
              rw [← HX.out, ← HY.out] at this
              omega
            go_wp2
            go_ret
            exact ⟨.inl ⟨hbad.out, rfl⟩, hB.out⟩
          · have hfit : ys.length + 1 ≤ P := by
              rw [hys.out, List.length_append, prodTo_length, rowTo_length]
              exact fits _ _ _ _ _ hka htb hP.out
            have hsz : w.heap.size ≤ wr.heap.size := hB.out.size
            have hone : ∀ u ∈ [Value.string (x ++ y)], u.oneCell' = true := by simp [Value.oneCell']
            have HONE : Hid (∀ u ∈ [Value.string (x ++ y)], u.oneCell' = true) := hone
            clear hone
            go_wp2_with (at_builtin; refine wpList_append_fits _ rfl _ _ 22 rfl w.heap.size 9 i 1 Try.underlying22 hi hz1 w.heap.size ys.length P (ys.map Value.string) rfl (hO.out.alloc _) ⟨wr.heap.size, 0, none⟩ 1 1 [.string (x ++ y)] rfl rfl (cell_one_new _ _ _) HONE.out hfit ?_)
            intro w2 hown2 hgrow2
            have HO2 : Hid (w2.ownsRow w.heap.size 9 1 (.slice (some ⟨w.heap.size, 0, none⟩) (ys ++ [x ++ y]).length P) (ys ++ [x ++ y]).length ((ys ++ [x ++ y]).map Value.string)) := by
              show World.ownsRow _ _ _ _ _ _ _
              rw [List.length_append, List.map_append]
              exact hown2
            have HB2 : Hid (Below w.heap.size w w2) := (hB.out.alloc hsz _).grown hgrow2 (by simp; omega) (fun k h => by cases h; exact Nat.le_refl _)
            have HY2 : Hid (ys ++ [x ++ y] = prodTo sa sb k_ ++ rowTo x sb (t + 1)) := by
              show _ = _
              rw [hys.out, HY.out, List.append_assoc]
              rfl
            have HR2 : Hid (∀ j, j < t + 1 → x.size + (at_ sb j).size ≤ 256) := fun j hj => by
              by_cases e : j = t
              · rw [e, ← HY.out]; omega
              · exact hrow.out j (by omega)
            clear hown2 hgrow2 hO hB hys hrow hcb
            go_wp2
            go_roundw
            case rel => exact ⟨t + 1, ys ++ [x ++ y], by omega, by go_num, by simp, HY2.out, HO2.out, HB2.out, HR2.out⟩
            case measure => simp [intOf]; omega
        · have htb' : ¬ (t : Int) < (sb.length : Int) := by omega
          have hte : t = sb.length := by omega
          have HY2 : Hid (ys = prodTo sa sb (k_ + 1)) := by
            show _ = _
            rw [hys.out, hte, HX.out]
            rfl
          have HR2 : Hid (∀ i j, i < k_ + 1 → j < sb.length → (at_ sa i).size + (at_ sb j).size ≤ 256) := fun i j hi hj => by
            by_cases e : i = k_
            · rw [e, ← HX.out]; exact hrow.out j (by omega)
            · exact hall.out i j (by omega) hj
          clear hte
          go_wp2
          go_roundw
          case rel => exact ⟨k_ + 1, ys, by omega, by go_num, rfl, HY2.out, hO.out, hB.out, HR2.out⟩
          case measure => simp [intOf]; omega
    · have hka' : ¬ (k_ : Int) < (sa.length : Int) := by omega
      have hke : k_ = sa.length := by omega
      have HG : Hid (gotOf sa sb = (distinct (xs.map bytes)).map ofBytes) := by
        show _ = _
        rw [hxs.out, hke]
        rfl
      have HF : Hid (Fits sa sb) := fun i j hi hj => hall.out i j (by omega) hj
      clear hke hall hxs
      have hxl : xs.length ≤ P := by
        obtain ⟨_, ⟨h, _⟩ | ⟨g, cap, cur, hv, _, _, h1, _⟩⟩ := hO.out
        · cases h
        · cases hv; exact h1
      have hs1 := sort_own hO.out (by omega)
      go_wp2_with fail
      refine hs1.mono ?_
      rintro e w2 ⟨rfl, hO2, hg2⟩
      have HB2 : Hid (Below w.heap.size w w2) := hB.out.grown hg2 hB.out.size (fun k h => by cases h; exact Nat.le_refl _)
      have hs2 := compact_own hO2 (by omega)
      clear hs1 hO2 hg2 hO hB
      go_wp2_with fail
      refine hs2.mono ?_
      rintro e w3 ⟨rfl, hl3, hc3, hg3⟩
      have HB3 : Hid (Below w.heap.size w w3) := HB2.out.grown hg3 HB2.out.size (fun k h => by cases h; exact Nat.le_refl _)
      have HC3 : Hid (Cells w3 w.heap.size 0 (gotOf sa sb)) := by
        show Cells _ _ _ _
        rw [HG.out]
        exact hc3
      clear hs2 hg3 hc3
      go_wp2
      go_ret
      refine ⟨.inr ⟨HF.out, w.heap.size, P, ?_, hl3, HC3.out⟩, HB3.out⟩
      rw [HG.out, List.length_map]
      rfl
end Go.Proofs.Qxb6617298a
