import Derived.Test.Qxb6619391aIn7
import Derived.Laws.IdiomCopy
namespace Go.Proofs.Qxb6619391a
open Go.RowKit

/-- Block b holds the values vs. -/
structure Box (w : World) (b : Nat) (vs : List Value) : Prop where
  lt : b < w.heap.size
  all : ∀ i v, vs[i]? = some v → w.cell? ⟨b, i, none⟩ = some v ∧ w.frozen? ⟨b, i, none⟩ = false

theorem cell_keep {w w' : World} (hb : Below w.heap.size w w') {b i : Nat} {u : Value} (h : w.cell? ⟨b, i, none⟩ = some u) : w'.cell? ⟨b, i, none⟩ = some u := by
  rw [hb.cell (p := ⟨b, i, none⟩) (World.block_lt_of_cell? w _ h)]; exact h

theorem Box.below {w w' : World} {b : Nat} {vs : List Value} (h : Box w b vs) (hb : Below w.heap.size w w') : Box w' b vs :=
  ⟨Nat.lt_of_lt_of_le h.lt hb.size, fun i v hi => ⟨cell_keep hb (h.all i v hi).1, by rw [hb.frozen (p := ⟨b, i, none⟩) h.lt]; exact (h.all i v hi).2⟩⟩

theorem Box.far {w : World} {b : Nat} {vs : List Value} (h : Box w b vs) (q : Addr) (u : Value) (hq : q.block ≠ b) : Box (w.setCell q u) b vs :=
  ⟨Nat.lt_of_lt_of_le h.lt (by simp [World.setCell]), fun i v hi => ⟨by rw [World.cell?_setCell_far _ _ _ _ hq]; exact (h.all i v hi).1, by rw [World.frozen?_setCell]; exact (h.all i v hi).2⟩⟩

/-- The state of the law's walk: what the pointers lead to, what the boxes hold. -/
structure St (w0 w : World) (Ps : List (Option Addr × Option Int)) (Bs : List (Nat × List Value)) : Prop where
  bel : Below w0.heap.size w0 w
  ptr : ∀ e ∈ Ps, IsPtr w e.1 e.2
  box : ∀ e ∈ Bs, Box w e.1 e.2
  ge : ∀ e ∈ Bs, w0.heap.size ≤ e.1
  nint : ∀ e ∈ Bs, ∀ v ∈ e.2, ∀ m, v ≠ .int .i64 m

theorem St.below {w0 w w' : World} {Ps : List (Option Addr × Option Int)} {Bs : List (Nat × List Value)} (h : St w0 w Ps Bs) (hb : Below w.heap.size w w') : St w0 w' Ps Bs :=
  ⟨h.bel.trans (hb.mono h.bel.size), fun e he => (h.ptr e he).below hb, fun e he => (h.box e he).below hb, h.ge, h.nint⟩

theorem St.drew {w0 w : World} {Ps : List (Option Addr × Option Int)} {Bs : List (Nat × List Value)} (h : St w0 w Ps Bs) : St w0 w.drew Ps Bs :=
  h.below ((Below.refl _ _).drew)

theorem St.ptrs {w0 w : World} {Ps : List (Option Addr × Option Int)} {Bs : List (Nat × List Value)} (h : St w0 w Ps Bs) {p q r : Option Addr} {x y z : Option Int} (hp : IsPtr w p x) (hq : IsPtr w q y) (hr : IsPtr w r z) :
    St w0 w ((p, x) :: (q, y) :: (r, z) :: Ps) Bs :=
  ⟨h.bel, fun e he => by
    simp only [List.mem_cons] at he
    rcases he with rfl | rfl | rfl | he
    · exact hp
    · exact hq
    · exact hr
    · exact h.ptr e he, h.box, h.ge, h.nint⟩

theorem St.weak {w0 w : World} {Ps Ps' : List (Option Addr × Option Int)} {Bs Bs' : List (Nat × List Value)} (h : St w0 w Ps Bs) (hp : ∀ e ∈ Ps', e ∈ Ps) (hb : ∀ e ∈ Bs', e ∈ Bs) : St w0 w Ps' Bs' :=
  ⟨h.bel, fun e he => h.ptr e (hp e he), fun e he => h.box e (hb e he), fun e he => h.ge e (hb e he), fun e he => h.nint e (hb e he)⟩

theorem St.alloc {w0 w : World} {Ps : List (Option Addr × Option Int)} {Bs : List (Nat × List Value)} (h : St w0 w Ps Bs) (vs : List Value) (t : TypeId) (hn : ∀ v ∈ vs, ∀ m, v ≠ .int .i64 m) :
    St w0 (w.alloc (.cells vs.toArray t)) Ps ((w.heap.size, vs) :: Bs) := by
  have hb : Below w.heap.size w (w.alloc (.cells vs.toArray t)) := (Below.refl _ _).alloc (Nat.le_refl _) _
  have h' := h.below hb
  refine ⟨h'.bel, h'.ptr, fun e he => ?_, fun e he => ?_, fun e he => ?_⟩
  · rcases List.mem_cons.1 he with rfl | he
    · refine ⟨by simp, fun i v hi => ?_⟩
      have hl := (List.getElem?_eq_some_iff.1 hi).1
      constructor
      · simp [hi]
      · simp
    · exact h'.box e he
  · rcases List.mem_cons.1 he with rfl | he
    · exact h.bel.size
    · exact h.ge e he
  · rcases List.mem_cons.1 he with rfl | he
    · exact hn
    · exact h.nint e he

/-- A store of one cell of the first box. -/
theorem St.set1 {w0 w : World} {Ps : List (Option Addr × Option Int)} {Bs : List (Nat × List Value)} {b : Nat} {vs : List Value} (h : St w0 w Ps ((b, vs) :: Bs)) (i : Nat) (u : Value) (hi : i < vs.length) (hu : ∀ m, u ≠ .int .i64 m) (hd : ∀ e ∈ Bs, b ≠ e.1) :
    St w0 (w.setCell ⟨b, i, none⟩ u) Ps ((b, vs.set i u) :: Bs) := by
  have hbx := h.box (b, vs) (by simp)
  have hc := (hbx.all i vs[i] (List.getElem?_eq_getElem hi)).1
  have hn : ∀ m, vs[i] ≠ .int .i64 m := h.nint (b, vs) (by simp) _ (List.getElem_mem hi)
  refine ⟨h.bel.setCell (h.ge (b, vs) (by simp)) u, fun e he => (h.ptr e he).setCell hc hn u, fun e he => ?_, fun e he => ?_, fun e he => ?_⟩
  · rcases List.mem_cons.1 he with rfl | he
    · refine ⟨Nat.lt_of_lt_of_le hbx.lt (by simp [World.setCell]), fun j v hj => ?_⟩
      rw [List.getElem?_set] at hj
      by_cases e : i = j
      · subst e
        simp [hi] at hj
        subst hj
        exact ⟨World.cell?_setCell_same _ _ _ hc, by rw [World.frozen?_setCell]; exact (hbx.all i _ (List.getElem?_eq_getElem hi)).2⟩
      · simp [e] at hj
        exact ⟨by rw [World.cell?_setCell_other _ _ _ _ (fun h => e (Addr.mk.inj h).2.1)]; exact (hbx.all j v hj).1, by rw [World.frozen?_setCell]; exact (hbx.all j v hj).2⟩
    · exact (h.box e (List.mem_cons_of_mem _ he)).far _ _ (hd e he)
  · rcases List.mem_cons.1 he with rfl | he
    · exact h.ge (b, vs) (by simp)
    · exact h.ge e (List.mem_cons_of_mem _ he)
  · rcases List.mem_cons.1 he with rfl | he
    · intro v hv m
      rcases List.mem_or_eq_of_mem_set hv with hv | rfl
      · exact h.nint (b, vs) (by simp) v hv m
      · exact hu m
    · exact h.nint e (List.mem_cons_of_mem _ he)

theorem St.set3 {w0 w : World} {Ps : List (Option Addr × Option Int)} {Bs : List (Nat × List Value)} {b : Nat} {u0 u1 u2 : Value} (h : St w0 w Ps ((b, [u0, u1, u2]) :: Bs)) (hd : ∀ e ∈ Bs, b ≠ e.1) (p q r : Option Addr) :
    St w0 (((w.setCell ⟨b, 0, none⟩ (.pointer p)).setCell ⟨b, 1, none⟩ (.pointer q)).setCell ⟨b, 2, none⟩ (.pointer r)) Ps ((b, [.pointer p, .pointer q, .pointer r]) :: Bs) :=
  ((h.set1 0 (.pointer p) (by simp) (by simp) hd).set1 1 (.pointer q) (by simp) (by simp) hd).set1 2 (.pointer r) (by simp) (by simp) hd

theorem St.set6 {w0 w : World} {Ps : List (Option Addr × Option Int)} {Bs : List (Nat × List Value)} {b : Nat} {u0 u1 u2 u3 u4 u5 : Value} (h : St w0 w Ps ((b, [u0, u1, u2, u3, u4, u5]) :: Bs)) (hd : ∀ e ∈ Bs, b ≠ e.1) (l m n : Bool) (p q r : Option Addr) :
    St w0 ((((((w.setCell ⟨b, 0, none⟩ (.bool l)).setCell ⟨b, 1, none⟩ (.pointer p)).setCell ⟨b, 2, none⟩ (.bool m)).setCell ⟨b, 3, none⟩ (.pointer q)).setCell ⟨b, 4, none⟩ (.bool n)).setCell ⟨b, 5, none⟩ (.pointer r)) Ps ((b, [.bool l, .pointer p, .bool m, .pointer q, .bool n, .pointer r]) :: Bs) :=
  (((((h.set1 0 (.bool l) (by simp) (by simp) hd).set1 1 (.pointer p) (by simp) (by simp) hd).set1 2 (.bool m) (by simp) (by simp) hd).set1 3 (.pointer q) (by simp) (by simp) hd).set1 4 (.bool n) (by simp) (by simp) hd).set1 5 (.pointer r) (by simp) (by simp) hd

theorem St.get3 {w0 w : World} {Ps : List (Option Addr × Option Int)} {Bs : List (Nat × List Value)} (h : St w0 w Ps Bs) {b : Nat} {u0 u1 u2 : Value} (hm : (b, [u0, u1, u2]) ∈ Bs) :
    (w.cell? ⟨b, 0, none⟩ = some u0 ∧ w.cell? ⟨b, 1, none⟩ = some u1 ∧ w.cell? ⟨b, 2, none⟩ = some u2) ∧ w.frozen? ⟨b, 0, none⟩ = false ∧ w.frozen? ⟨b, 1, none⟩ = false ∧ w.frozen? ⟨b, 2, none⟩ = false := by
  have hx := h.box _ hm
  exact ⟨⟨(hx.all 0 _ rfl).1, (hx.all 1 _ rfl).1, (hx.all 2 _ rfl).1⟩, (hx.all 0 _ rfl).2, (hx.all 1 _ rfl).2, (hx.all 2 _ rfl).2⟩

theorem St.get6 {w0 w : World} {Ps : List (Option Addr × Option Int)} {Bs : List (Nat × List Value)} (h : St w0 w Ps Bs) {b : Nat} {u0 u1 u2 u3 u4 u5 : Value} (hm : (b, [u0, u1, u2, u3, u4, u5]) ∈ Bs) :
    (w.cell? ⟨b, 0, none⟩ = some u0 ∧ w.cell? ⟨b, 1, none⟩ = some u1 ∧ w.cell? ⟨b, 2, none⟩ = some u2 ∧ w.cell? ⟨b, 3, none⟩ = some u3 ∧ w.cell? ⟨b, 4, none⟩ = some u4 ∧ w.cell? ⟨b, 5, none⟩ = some u5) ∧
    w.frozen? ⟨b, 0, none⟩ = false ∧ w.frozen? ⟨b, 1, none⟩ = false ∧ w.frozen? ⟨b, 2, none⟩ = false ∧ w.frozen? ⟨b, 3, none⟩ = false ∧ w.frozen? ⟨b, 4, none⟩ = false ∧ w.frozen? ⟨b, 5, none⟩ = false := by
  have hx := h.box _ hm
  exact ⟨⟨(hx.all 0 _ rfl).1, (hx.all 1 _ rfl).1, (hx.all 2 _ rfl).1, (hx.all 3 _ rfl).1, (hx.all 4 _ rfl).1, (hx.all 5 _ rfl).1⟩, (hx.all 0 _ rfl).2, (hx.all 1 _ rfl).2, (hx.all 2 _ rfl).2, (hx.all 3 _ rfl).2, (hx.all 4 _ rfl).2, (hx.all 5 _ rfl).2⟩
end Go.Proofs.Qxb6619391a
