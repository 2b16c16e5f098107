import Derived.Test.Qxb6617298aBn7
import Derived.Deep.DeepCutAuto
import Derived.Laws.CopyOwn
import Derived.Deep.Light
namespace Go.Proofs.Qxb6617298a
open Go.RowKit

theorem Try.info9 : (Try.prog.info? 9).map (fun i => (i.zero, i.size, i.bytes)) = some (some (.string ByteArray.empty), 1, 16) := by kernel_rfl
theorem Try.size9 : (Try.prog.info? 9).map (·.size) = some 1 := by kernel_rfl

theorem lt_of_cell {w : World} {a : Addr} {v : Value} (h : w.cell? a = some v) : a.block < w.heap.size := by
  unfold World.cell? at h
  by_cases hl : a.block < w.heap.size
  · exact hl
  · rw [Array.getElem?_eq_none (by omega)] at h; cases h

theorem cell_of_block {w : World} {g : Nat} {c : Array Value} {e : TypeId} {f : Nat × Nat} (hb : w.heap[g]? = some (.cells c e f)) (i : Nat) : w.cell? ⟨g, i, none⟩ = c[i]? := by
  unfold World.cell?
  rw [hb]; rfl

theorem cells_of_splice {w : World} {g : Nat} {cur : List Value} {ss : List ByteArray} {e : TypeId} {f : Nat × Nat}
    (h : w.heap[g]? = some (.cells (splice cur 0 (ss.map Value.string)).toArray e f)) : Cells w g 0 ss := by
  intro i hi
  rw [Nat.zero_add, cell_of_block h]
  have e : (splice cur 0 (ss.map Value.string)).toArray[i]? = (ss.map Value.string)[i]? := by
    simp only [splice, List.take_zero, List.nil_append, List.getElem?_toArray]
    rw [List.getElem?_append_left (by simpa using hi)]
  rw [e]
  simp [List.getD, hi]

theorem lt_of_block {w : World} {g : Nat} {o : Obj} (hb : w.heap[g]? = some o) : g < w.heap.size := (Array.getElem?_eq_some_iff.1 hb).1

/-- What 'make' has laid. -/
theorem made_row {w1 : World} {B g n : Nat} {xs : List Value} (h : w1.ownsRow B 9 1 (.slice (some ⟨g, 0, none⟩) n n) n xs) : ∃ cur : List Value, w1.heap[g]? = some (.cells cur.toArray 9 (0, 0)) ∧ cur.length = n := by
  obtain ⟨_, ⟨h, _⟩ | ⟨g', cap, cur, hv, _, hb, _, _, hs, _⟩⟩ := h
  · cases h
  · simp only [Value.slice.injEq, Option.some.injEq, Addr.mk.injEq] at hv
    obtain ⟨⟨rfl, _⟩, _, rfl⟩ := hv
    exact ⟨cur.toList, by simpa using hb, by simpa using hs⟩

/-- A slice of strings that came in: nil, or a row. -/
def Came (w : World) (o : Option Addr) (c : Nat) (ss : List ByteArray) : Prop :=
  (o = none ∧ c = 0 ∧ ss = []) ∨ ∃ x, o = some x ∧ (ss = [] ∨ ∃ b off, x = ⟨b, off, none⟩ ∧ b < w.heap.size ∧ Cells w b off ss)

theorem Came.row {w : World} {o : Option Addr} {c : Nat} {ss : List ByteArray} (h : Came w o c ss) : StrRow w o ss := by
  rcases h with ⟨_, _, h⟩ | ⟨x, rfl, h | ⟨b, off, rfl, _, h⟩⟩
  · exact .inl h
  · exact .inl h
  · exact .inr ⟨b, off, rfl, h⟩

theorem Came.below {w w' : World} {o : Option Addr} {c : Nat} {ss : List ByteArray} (h : Came w o c ss) (hb : Below w.heap.size w w') : Came w' o c ss := by
  rcases h with h | ⟨x, rfl, h | ⟨b, off, rfl, hl, h⟩⟩
  · exact .inl h
  · exact .inr ⟨x, rfl, .inl h⟩
  · exact .inr ⟨_, rfl, .inr ⟨b, off, rfl, Nat.lt_of_lt_of_le hl hb.size, h.below hl hb⟩⟩

/-- The copy's source, as the law of 'copy' asks it. -/
theorem src_cells {w w1 : World} {b off : Nat} {ss : List ByteArray} (h : Cells w b off ss) {B : Nat} (hl : b < B) (hb : Below B w w1) :
    ∀ j v, (ss.map Value.string)[j]? = some v → w1.cell? (Addr.add ⟨b, off, none⟩ j) = some v := by
  intro j v hv
  have hj : j < ss.length := by
    have := (List.getElem?_eq_some_iff.1 hv).1
    simpa using this
  have := (h.below hl hb) j hj
  have e : v = .string (ss.getD j ByteArray.empty) := by
    simp [hj] at hv
    simp [List.getD, hj, hv]
  rw [e, Addr.add_lit]
  exact this

theorem strings_oneCell (ss : List ByteArray) : ∀ v ∈ ss.map Value.string, v.oneCell' = true := by
  intro v hv
  obtain ⟨s, _, rfl⟩ := List.mem_map.1 hv
  rfl
end Go.Proofs.Qxb6617298a
