import Derived.Test.Qxb6617328aProg
import Derived.WalkKit
import Derived.WalkSpells
import Derived.WalkLawsBesides
import Derived.Deep.QuietTactic
import Derived.BigQuiet
import Derived.Deep.DeepCutAuto
import Derived.Deep.RegionWith
import Derived.Laws.CopyOwn
import Derived.Lib.Strings
import Derived.Sort.Walk0
namespace Go.Proofs.Qxb6617328a
open Go.RowKit

/-- The string at place i. -/
def at_ (ss : List ByteArray) (i : Nat) : ByteArray := ss.getD i ByteArray.empty

theorem size_at {ss : List ByteArray} {M : Nat} (h : ∀ s ∈ ss, s.size ≤ M) (k : Nat) : (at_ ss k).size ≤ M := by
  unfold at_
  by_cases hk : k < ss.length
  · have e : ss.getD k ByteArray.empty = ss[k] := by simp [List.getD, hk]
    rw [e]; exact h _ (List.getElem_mem _)
  · have e : ss.getD k ByteArray.empty = ByteArray.empty := by simp [List.getD, hk]
    rw [e]; simp

theorem at_mem {ss : List ByteArray} {i : Nat} (h : i < ss.length) : at_ ss i ∈ ss := by
  have e : at_ ss i = ss[i] := by simp [at_, List.getD, h]
  rw [e]; exact List.getElem_mem _

/-- The cells of a row of strings. -/
def Cells (w : World) (b off : Nat) (ss : List ByteArray) : Prop := ∀ i, i < ss.length → w.cell? ⟨b, off + i, none⟩ = some (.string (at_ ss i))

theorem Cells.below {w w' : World} {b off : Nat} {ss : List ByteArray} (h : Cells w b off ss) {B : Nat} (hB : b < B) (hb : Below B w w') : Cells w' b off ss :=
  fun i hi => by rw [hb.cell (p := ⟨b, off + i, none⟩) hB]; exact h i hi

theorem ret_int {k : IntKind} {a b : Int} (h : a = b) : Ending.returned (.int k a) = .returned (.int k b) := by rw [h]
theorem ret_bool {a b : Bool} (h : a = b) : Ending.returned (.bool a) = .returned (.bool b) := by rw [h]

theorem lt_of_cell {w : World} {a : Addr} {v : Value} (h : w.cell? a = some v) : a.block < w.heap.size := by
  unfold World.cell? at h
  by_cases hl : a.block < w.heap.size
  · exact hl
  · rw [Array.getElem?_eq_none (by omega)] at h; cases h

theorem cell_of_block {w : World} {g : Nat} {c : Array Value} {e : TypeId} {f : Nat × Nat} (hb : w.heap[g]? = some (.cells c e f)) (i : Nat) : w.cell? ⟨g, i, none⟩ = c[i]? := by
  unfold World.cell?
  rw [hb]; rfl

theorem lt_of_block {w : World} {g : Nat} {o : Obj} (hb : w.heap[g]? = some o) : g < w.heap.size := (Array.getElem?_eq_some_iff.1 hb).1

/-- A slice of strings as it lies in memory; it may be nil where it has no element. -/
def Row (w : World) (o : Option Addr) (ss : List ByteArray) : Prop := ss = [] ∨ ∃ b off, o = some ⟨b, off, none⟩ ∧ b < w.heap.size ∧ Cells w b off ss

theorem Row.at {w : World} {o : Option Addr} {ss : List ByteArray} (h : Row w o ss) {i : Nat} (hi : i < ss.length) :
    ∃ b off, o = some ⟨b, off, none⟩ ∧ w.cell? ⟨b, off + i, none⟩ = some (.string (at_ ss i)) := by
  obtain rfl | ⟨b, off, h3, _, h4⟩ := h
  · simp at hi
  · exact ⟨b, off, h3, h4 i hi⟩

theorem Row.below {w w' : World} {o : Option Addr} {ss : List ByteArray} (h : Row w o ss) (hb : Below w.heap.size w w') : Row w' o ss := by
  obtain h3 | ⟨b, off, h4, hl, h5⟩ := h
  · exact .inl h3
  · exact .inr ⟨b, off, h4, Nat.lt_of_lt_of_le hl hb.size, h5.below hl hb⟩

/-- The same world but for draws. -/
def Qt (w w' : World) : Prop := ∃ n, w' = w.drewN n
theorem Qt.refl (w : World) : Qt w w := ⟨0, rfl⟩
theorem Qt.drewN {w w' : World} (h : Qt w w') (n : Nat) : Qt w (w'.drewN n) := by
  obtain ⟨m, rfl⟩ := h
  exact ⟨m + n, by rw [World.drewN_drewN]⟩
theorem Qt.trans {a b c : World} (h : Qt a b) (k : Qt b c) : Qt a c := by
  obtain ⟨m, rfl⟩ := k
  exact h.drewN m
theorem Qt.row {w w' : World} {o : Option Addr} {ss : List ByteArray} (h : Row w o ss) (q : Qt w w') : Row w' o ss := by
  obtain ⟨n, rfl⟩ := q
  exact h
theorem Qt.below {w w' : World} (q : Qt w w') : Below w.heap.size w w' := by
  obtain ⟨n, rfl⟩ := q
  exact below_drewN (Below.refl _ _) n

theorem Try.info9 : (Try.prog.info? 9).map (fun i => (i.zero, i.size, i.bytes)) = some (some (.string ByteArray.empty), 1, 16) := by kernel_rfl
theorem Try.size9 : (Try.prog.info? 9).map (·.size) = some 1 := by kernel_rfl

theorem eqlnil (w : World) (a : Option Addr) (n c : Nat) : (binOp .eql 25 (.slice a n c) (.slice none 0 0)).run Try.prog w = .ok (.bool a.isNone) w :=
  Lib.run_eql_slice_nil (P := Try.prog) w 25 9 a n c 0 0 Try.underlying25
theorem neqnil (w : World) (a : Option Addr) (n c : Nat) : (binOp .neq 25 (.slice a n c) (.slice none 0 0)).run Try.prog w = .ok (.bool (!a.isNone)) w :=
  run_neq_slice_nil_any (P := Try.prog) w 25 9 a n c 0 0 Try.underlying25

theorem cells_of_splice {w : World} {g : Nat} {cur : List Value} {ss : List ByteArray} {e : TypeId} {f : Nat × Nat}
    (h : w.heap[g]? = some (.cells (splice cur 0 (ss.map Value.string)).toArray e f)) : Cells w g 0 ss := by
  intro i hi
  rw [Nat.zero_add, cell_of_block h]
  have e : (splice cur 0 (ss.map Value.string)).toArray[i]? = (ss.map Value.string)[i]? := by
    simp only [splice, List.take_zero, List.nil_append, List.getElem?_toArray]
    rw [List.getElem?_append_left (by simpa using hi)]
  rw [e]
  simp [at_, List.getD, hi]

/-- What 'make' has laid. -/
theorem made_row {w1 : World} {B g n : Nat} {xs : List Value} (h : w1.ownsRow B 9 1 (.slice (some ⟨g, 0, none⟩) n n) n xs) : ∃ cur : List Value, w1.heap[g]? = some (.cells cur.toArray 9 (0, 0)) ∧ cur.length = n := by
  obtain ⟨_, ⟨h, _⟩ | ⟨g', cap, cur, hv, _, hb, _, _, hs, _⟩⟩ := h
  · cases h
  · simp only [Value.slice.injEq, Option.some.injEq, Addr.mk.injEq] at hv
    obtain ⟨⟨rfl, _⟩, _, rfl⟩ := hv
    exact ⟨cur.toList, by simpa using hb, by simpa using hs⟩

/-- A slice of strings that came in: nil, or a row. -/
def Came (w : World) (o : Option Addr) (c : Nat) (ss : List ByteArray) : Prop :=
  (o = none ∧ c = 0 ∧ ss = []) ∨ ∃ x, o = some x ∧ (ss = [] ∨ ∃ b off, x = ⟨b, off, none⟩ ∧ b < w.heap.size ∧ Cells w b off ss)

theorem Came.row {w : World} {o : Option Addr} {c : Nat} {ss : List ByteArray} (h : Came w o c ss) : Row w o ss := by
  rcases h with ⟨_, _, h⟩ | ⟨x, rfl, h | ⟨b, off, rfl, hl, h⟩⟩
  · exact .inl h
  · exact .inl h
  · exact .inr ⟨b, off, rfl, hl, h⟩

theorem src_cells {w w1 : World} {b off : Nat} {ss : List ByteArray} (h : Cells w b off ss) {B : Nat} (hl : b < B) (hb : Below B w w1) :
    ∀ j v, (ss.map Value.string)[j]? = some v → w1.cell? (Addr.add ⟨b, off, none⟩ j) = some v := by
  intro j v hv
  have hj : j < ss.length := by
    have := (List.getElem?_eq_some_iff.1 hv).1
    simpa using this
  have := (h.below hl hb) j hj
  have e : v = .string (at_ ss j) := by
    simp [hj] at hv
    simp [at_, List.getD, hj, hv]
  rw [e, Addr.add_lit]
  exact this

theorem strings_oneCell (ss : List ByteArray) : ∀ v ∈ ss.map Value.string, v.oneCell' = true := by
  intro v hv
  obtain ⟨s, _, rfl⟩ := List.mem_map.1 hv
  rfl

/-- The copy's source, where something is copied at all. -/
theorem src_any {w w1 : World} {x : Addr} {ss : List ByteArray} (h : ss = [] ∨ ∃ b off, x = ⟨b, off, none⟩ ∧ b < w.heap.size ∧ Cells w b off ss) (hb : Below w.heap.size w w1) :
    0 < (ss.map Value.string).length → ∃ ad, some x = some ad ∧ ∀ j v, (ss.map Value.string)[j]? = some v → w1.cell? (ad.add j) = some v := by
  intro h0
  rcases h with rfl | ⟨b, off, rfl, hl, hc⟩
  · simp at h0
  · exact ⟨_, rfl, src_cells hc hl hb⟩

/-- It hands back a Bool; where that is true, p holds. -/
def Says (e : Ending) (p : Prop) : Prop := ∃ r : Bool, e = .returned (.bool r) ∧ (r = true → p)
theorem Says.no {p : Prop} : Says (.returned (.bool false)) p := ⟨false, rfl, fun h => by cases h⟩
theorem Says.yes {p : Prop} (h : p) : Says (.returned (.bool true)) p := ⟨true, rfl, fun _ => h⟩

/-- It hands back a Bool; where that is false, p holds. -/
def Denies (e : Ending) (p : Prop) : Prop := ∃ r : Bool, e = .returned (.bool r) ∧ (r = false → p)
theorem Denies.yes {p : Prop} : Denies (.returned (.bool true)) p := ⟨true, rfl, fun h => by cases h⟩
theorem Denies.no {p : Prop} (h : p) : Denies (.returned (.bool false)) p := ⟨false, rfl, fun _ => h⟩

/-- Few strings, each of them short. -/
def Small (ss : List ByteArray) : Prop := ss.length ≤ 1048576 ∧ ∀ s ∈ ss, s.size ≤ 1048576

theorem small_of {ss : List ByteArray} (h1 : ss.length ≤ 1048576) (h2 : ∀ j, j < ss.length → (at_ ss j).size ≤ 1048576) : Small ss := by
  refine ⟨h1, fun s hs => ?_⟩
  obtain ⟨j, hj, rfl⟩ := List.getElem_of_mem hs
  have := h2 j hj
  have e : at_ ss j = ss[j] := by simp [at_, List.getD, hj]
  rwa [e] at this

/-! ### the order of strings -/
def Lt (a b : ByteArray) : Prop := a.data.toList < b.data.toList
theorem less_iff (a b : ByteArray) : Op.bytesLess a.toList b.toList = true ↔ Lt a b := by
  rw [bytesLess_eq, Lib.toList_data, Lib.toList_data]
  exact decide_eq_true_iff
theorem less_false (a b : ByteArray) : Op.bytesLess a.toList b.toList = false ↔ ¬ Lt a b := by
  rw [← less_iff]; simp
theorem ext_iff (a b : ByteArray) : a.toList = b.toList ↔ a = b := by
  rw [Lib.toList_data, Lib.toList_data]
  refine ⟨fun h => ?_, fun h => by rw [h]⟩
  obtain ⟨⟨a⟩⟩ := a
  obtain ⟨⟨b⟩⟩ := b
  exact congrArg _ (congrArg _ h)
theorem eq_true_iff (a b : ByteArray) : (a.toList == b.toList) = true ↔ a = b := by
  rw [beq_iff_eq]; exact ext_iff a b
theorem eq_false_iff (a b : ByteArray) : (a.toList == b.toList) = false ↔ a ≠ b := by
  rw [beq_eq_false_iff_ne]; exact not_congr (ext_iff a b)
theorem Lt.trans {a b c : ByteArray} (h : Lt a b) (k : Lt b c) : Lt a c := List.lt_trans h k
theorem Lt.irrefl (a : ByteArray) : ¬ Lt a a := List.lt_irrefl _
theorem Lt.ne {a b : ByteArray} (h : Lt a b) : a ≠ b := fun e => Lt.irrefl b (e ▸ h)
theorem lt_of_not {a b : ByteArray} (h : ¬ Lt a b) (hn : a ≠ b) : Lt b a := by
  have h1 : b.data.toList ≤ a.data.toList := List.not_lt.1 h
  refine Std.lt_of_le_of_ne h1 fun e => hn ?_
  obtain ⟨⟨a⟩⟩ := a
  obtain ⟨⟨b⟩⟩ := b
  exact congrArg _ (congrArg _ e.symm)

/-- Strictly increasing. -/
def Inc (ss : List ByteArray) : Prop := ∀ i j, i < j → j < ss.length → Lt (at_ ss i) (at_ ss j)
theorem inc_of {ss : List ByteArray} (h : ∀ i, i + 1 < ss.length → Lt (at_ ss i) (at_ ss (i + 1))) : Inc ss := by
  intro i j hij
  induction j with
  | zero => omega
  | succ j ih =>
    intro hj
    by_cases e : i = j
    · subst e; exact h i hj
    · exact (ih (by omega) (by omega)).trans (h j hj)
end Go.Proofs.Qxb6617328a
