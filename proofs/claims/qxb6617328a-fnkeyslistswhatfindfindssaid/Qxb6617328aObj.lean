import Derived.Test.Qxb6617328aBase
import Derived.LaidEqlPtr
namespace Go.Proofs.Qxb6617328a
open Go.RowKit

theorem Try.info42 : (Try.prog.info? 42).map (fun i => (i.zero, i.size, i.bytes)) = some (some (.agg #[.string ByteArray.empty, .string ByteArray.empty, .bool false]), 3, 40) := by kernel_rfl

/-- The members' row: the keys up to place k, the rest empty. -/
def MemTo (w : World) (g n k : Nat) (ss : List ByteArray) : Prop :=
  ∃ cur : Array Value, w.heap[g]? = some (.cells cur 42 (0, 0)) ∧ cur.size = n * 3 ∧
    ∀ i, i < n → cur[i * 3]? = some (.string (if i < k then at_ ss i else ByteArray.empty)) ∧ cur[i * 3 + 1]? = some (.string ByteArray.empty) ∧ cur[i * 3 + 2]? = some (.bool false)

theorem madeCells_get (z : Array Value) (n j : Nat) (h : j < n) : (madeCells z n)[j]? = some z[j % z.size]! := by
  simp [madeCells, h]

theorem memTo_made (n : Nat) (ss : List ByteArray) {w1 : World} {g : Nat} (h : w1.heap[g]? = some (.cells (madeCells #[.string ByteArray.empty, .string ByteArray.empty, .bool false] (n * 3)) 42 (0, 0))) : MemTo w1 g n 0 ss := by
  refine ⟨_, h, size_madeCells _ _, fun i hi => ⟨?_, ?_, ?_⟩⟩
  · rw [madeCells_get _ _ _ (by omega)]
    simp
  · rw [madeCells_get _ _ _ (by omega)]
    have : (i * 3 + 1) % 3 = 1 := by omega
    simp [this]
  · rw [madeCells_get _ _ _ (by omega)]
    have : (i * 3 + 2) % 3 = 2 := by omega
    simp [this]

theorem made_block {w1 : World} {B g n : Nat} {e : TypeId} {size : Nat} {xs : List Value} (h : w1.ownsRow B e size (.slice (some ⟨g, 0, none⟩) n n) n xs) : w1.heap[g]? = some (.cells xs.toArray e (0, 0)) := by
  obtain ⟨_, ⟨h, _⟩ | ⟨g', cap, cur, hv, _, hb, _, _, hs, ht⟩⟩ := h
  · cases h
  · simp only [Value.slice.injEq, Option.some.injEq, Addr.mk.injEq] at hv
    obtain ⟨⟨rfl, _⟩, _, rfl⟩ := hv
    have : cur.toList = xs := by
      rw [← ht, List.take_of_length_le (by simp [hs])]
    rw [← this]
    simpa using hb

theorem MemTo.key {w : World} {g n k : Nat} {ss : List ByteArray} (h : MemTo w g n k ss) {i : Nat} (hi : i < n) : w.cell? ⟨g, i * 3, none⟩ = some (.string (if i < k then at_ ss i else ByteArray.empty)) := by
  obtain ⟨cur, hb, _, hc⟩ := h
  rw [cell_of_block hb]; exact (hc i hi).1

theorem MemTo.frozen {w : World} {g n k : Nat} {ss : List ByteArray} (h : MemTo w g n k ss) (j : Nat) : w.frozen? ⟨g, j, none⟩ = false := by
  obtain ⟨cur, hb, _, hc⟩ := h
  simp [World.frozen?, hb]

theorem MemTo.put {w : World} {g n k : Nat} {ss : List ByteArray} (h : MemTo w g n k ss) (hk : k < n) : MemTo (w.setCell ⟨g, k * 3, none⟩ (.string (at_ ss k))) g n (k + 1) ss := by
  obtain ⟨cur, hb, hs, hc⟩ := h
  refine ⟨cur.setIfInBounds (k * 3) (.string (at_ ss k)), ?_, by simpa using hs, fun i hi => ?_⟩
  · simp [World.setCell, Array.getElem?_modify, hb]
  · obtain ⟨h0, h1, h2⟩ := hc i hi
    refine ⟨?_, ?_, ?_⟩
    · rw [Array.getElem?_setIfInBounds]
      by_cases e : k = i
      · subst e
        rw [if_pos rfl, if_pos (by omega), if_pos (by omega)]
      · rw [if_neg (by omega), h0]
        by_cases hik : i < k
        · rw [if_pos hik, if_pos (by omega)]
        · rw [if_neg hik, if_neg (by omega)]
    · rw [Array.getElem?_setIfInBounds, if_neg (by omega)]; exact h1
    · rw [Array.getElem?_setIfInBounds, if_neg (by omega)]; exact h2

/-- An object of keys, at block p; its members' row at block g. -/
structure IsObj (w : World) (p g : Nat) (path : ByteArray) (ss : List ByteArray) : Prop where
  path : w.cell? ⟨p, 0, none⟩ = some (.string path)
  mem : w.cell? ⟨p, 1, none⟩ = some (.slice (some ⟨g, 0, none⟩) ss.length ss.length)
  row : MemTo w g ss.length ss.length ss
  lp : p < w.heap.size
  lg : g < w.heap.size

/-- What zzObject leaves. -/
def Laid (path : ByteArray) (ss : List ByteArray) (e : Ending) (w' : World) : Prop := ∃ p g, e = .returned (.pointer (some ⟨p, 0, none⟩)) ∧ IsObj w' p g path ss

set_option maxHeartbeats 400000 in
theorem object_any (path : ByteArray) (o : Option Addr) (c : Nat) (ss : List ByteArray) (w : World) (hn : ss.length ≤ 65536) (r : Row w o ss) :
    Calls Try.prog 18 #[.string path, .slice o ss.length c] w fun e w' => Laid path ss e w' ∧ Below w.heap.size w w' := by
  have R : Hid (Row w o ss) := r
  clear r
  obtain ⟨i, hi, hz0, hz1, hz2⟩ := info_parts Try.info42
  go_enter Try.func18, Try.ntmps18
  go_wp2_with (at_make; refine wpList_make_full _ rfl _ _ 38 rfl w.heap.size 42 i _ 3 Try.underlying38 hi hz0 hz1 _ _ _ _ ss.length rfl rfl rfl rfl (by rw [hz2]; omega) (by unfold maxLen; omega) (Nat.le_refl _) ?_)
  intro w1 hown hgrow
  have hM1 := made_block hown
  have HM1 : Hid (MemTo w1 w.heap.size ss.length 0 ss) := memTo_made ss.length ss (by simpa using hM1)
  have HB1 : Hid (Below w.heap.size w w1) := (Below.refl _ _).grown hgrow (Nat.le_refl _) (fun k h => by cases h)
  clear hown hgrow hM1 hi hz0 hz1 hz2
  go_wp2
  go_loopw [12] (fun k wr => ∃ t : Nat, t ≤ ss.length ∧ k = .int .i64 t ∧ Hid (MemTo wr w.heap.size ss.length t ss) ∧ Hid (Below w.heap.size w wr)) (fun k _ => ss.length - (intOf k).toNat)
  case atStart => exact ⟨0, by omega, rfl, HM1.out, HB1.out⟩
  case round =>
    clear HM1 HB1
    obtain ⟨t, ht, rfl, hM, hB⟩ := hrel
    by_cases hlt : t < ss.length
    · have hlt' : (t : Int) < (ss.length : Int) := by omega
      obtain ⟨b, off, rfl, hc⟩ := (R.out.below hB.out).at hlt
      have hk := hM.out.key hlt
      have hf := hM.out.frozen (t * 3)
      have HP : Hid (MemTo (wr.setCell ⟨w.heap.size, t * 3, none⟩ (.string (at_ ss t))) w.heap.size ss.length (t + 1) ss) := hM.out.put hlt
      generalize at_ ss t = s at *
      go_wp2
      go_roundw
      case rel => exact ⟨t + 1, by omega, by go_num, HP.out, hB.out.setCell (Nat.le_refl _) _⟩
      case measure => simp [intOf]; omega
    · have hlt' : ¬ (t : Int) < (ss.length : Int) := by omega
      obtain rfl : t = ss.length := by omega
      go_wp2
      go_ret
      refine ⟨⟨wr.heap.size, w.heap.size, rfl, ?_⟩, hB.out.alloc hB.out.size _⟩
      have hlt2 : w.heap.size < wr.heap.size := by
        obtain ⟨cur, hb, _⟩ := hM.out
        exact lt_of_block hb
      refine ⟨by simp, by simp, ?_, by simp, by simp; omega⟩
      obtain ⟨cur, hb, h1, h2⟩ := hM.out
      exact ⟨cur, by rw [Below.heap_alloc _ _ _ hlt2]; exact hb, h1, h2⟩
end Go.Proofs.Qxb6617328a
