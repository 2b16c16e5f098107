import Derived.Test.Qxb6619391aPtr
import Derived.Deep.RegionHeld3
namespace Go.Proofs.Qxb6619391a
open Go.RowKit

/-- The cells i of block b are there, hold pointers or bools, and are not frozen. -/
def Room (w : World) (b n : Nat) : Prop := ∀ i, i < n → (∃ v, w.cell? ⟨b, i, none⟩ = some v ∧ ∀ m, v ≠ .int .i64 m) ∧ w.frozen? ⟨b, i, none⟩ = false

theorem Room.below {w w' : World} {b n : Nat} (h : Room w b n) (hb : Below w.heap.size w w') (hl : b < w.heap.size) : Room w' b n := fun i hi => by
  obtain ⟨⟨v, h1, h2⟩, h3⟩ := h i hi
  exact ⟨⟨v, by rw [hb.cell (p := ⟨b, i, none⟩) hl]; exact h1, h2⟩, by rw [hb.frozen (p := ⟨b, i, none⟩) hl]; exact h3⟩

theorem IsPtr.setCell {w : World} {o : Option Addr} {x : Option Int} (h : IsPtr w o x) {q : Addr} {u : Value} (hq : w.cell? q = some u) (hu : ∀ m, u ≠ .int .i64 m) (v : Value) : IsPtr (w.setCell q v) o x := by
  rcases h.out with h | ⟨b, f, n, h1, h2, h3, h4⟩
  · exact ⟨.inl h⟩
  · refine ⟨.inr ⟨b, f, n, h1, h2, Nat.lt_of_lt_of_le h3 (by simp [World.setCell]), ?_⟩⟩
    rw [World.cell?_setCell_other w q ⟨b, f, none⟩ v (fun e => by subst e; rw [hq] at h4; exact hu n (Option.some.inj h4))]
    exact h4

/-- What is held through the region of the clones. -/
structure Held (w0 : World) (a b c : Option Addr) (x y z : Option Int) (k : Nat) (w : World) : Prop where
  pa : IsPtr w a x
  pb : IsPtr w b y
  pc : IsPtr w c z
  bel : Below w0.heap.size w0 w
  big : w0.heap.size + 1 < w.heap.size
  room : Room w (w0.heap.size + 1) k

theorem Held.below {w0 : World} {a b c : Option Addr} {x y z : Option Int} {k : Nat} {w w' : World} (h : Held w0 a b c x y z k w) (hb : Below w.heap.size w w') : Held w0 a b c x y z k w' :=
  ⟨h.pa.below hb, h.pb.below hb, h.pc.below hb, h.bel.trans (hb.mono h.bel.size), Nat.lt_of_lt_of_le h.big hb.size, h.room.below hb h.big⟩

theorem cell_below {w w' : World} (hb : Below w.heap.size w w') {b i : Nat} (hl : b < w.heap.size) {u : Value} (h : w.cell? ⟨b, i, none⟩ = some u) : w'.cell? ⟨b, i, none⟩ = some u := by
  rw [hb.cell (p := ⟨b, i, none⟩) hl]; exact h

theorem Held.set {w0 : World} {a b c : Option Addr} {x y z : Option Int} {k : Nat} {w : World} (h : Held w0 a b c x y z k w) {i : Nat} (hi : i < k) {v : Value} (hv : ∀ m, v ≠ .int .i64 m) :
    Held w0 a b c x y z k (w.setCell ⟨w0.heap.size + 1, i, none⟩ v) := by
  obtain ⟨⟨u, hu, hn⟩, hf⟩ := h.room i hi
  refine ⟨h.pa.setCell hu hn v, h.pb.setCell hu hn v, h.pc.setCell hu hn v, h.bel.setCell (by simp) v, Nat.lt_of_lt_of_le h.big (by simp [World.setCell]), fun j hj => ?_⟩
  obtain ⟨⟨u', hu', hn'⟩, hf'⟩ := h.room j hj
  refine ⟨?_, by rw [World.frozen?_setCell]; exact hf'⟩
  by_cases e : i = j
  · subst e
    exact ⟨v, World.cell?_setCell_same _ _ _ hu, hv⟩
  · exact ⟨u', by rw [World.cell?_setCell_other _ _ _ _ (fun h => e (Addr.mk.inj h).2.1)]; exact hu', hn'⟩

/-- The cells of the boxed parameter. -/
theorem keep3 {w0 : World} {a b c : Option Addr} {x y z : Option Int} {w w' : World} {u0 u1 u2 : Value} (hb : Below w.heap.size w w')
    (h : w.cell? ⟨w0.heap.size, 0, none⟩ = some u0 ∧ w.cell? ⟨w0.heap.size, 1, none⟩ = some u1 ∧ w.cell? ⟨w0.heap.size, 2, none⟩ = some u2 ∧ Hid (Held w0 a b c x y z 3 w)) :
    w'.cell? ⟨w0.heap.size, 0, none⟩ = some u0 ∧ w'.cell? ⟨w0.heap.size, 1, none⟩ = some u1 ∧ w'.cell? ⟨w0.heap.size, 2, none⟩ = some u2 ∧ Hid (Held w0 a b c x y z 3 w') := by
  obtain ⟨h0, h1, h2, hh⟩ := h
  have hl : w0.heap.size < w.heap.size := Nat.lt_of_succ_lt hh.out.big
  exact ⟨cell_below hb hl h0, cell_below hb hl h1, cell_below hb hl h2, hh.out.below hb⟩

theorem keepset3 {w0 : World} {a b c : Option Addr} {x y z : Option Int} {w : World} {u0 u1 u2 : Value} {i : Nat} {v : Value} (hi : i < 3) (hv : ∀ m, v ≠ .int .i64 m)
    (h : w.cell? ⟨w0.heap.size, 0, none⟩ = some u0 ∧ w.cell? ⟨w0.heap.size, 1, none⟩ = some u1 ∧ w.cell? ⟨w0.heap.size, 2, none⟩ = some u2 ∧ Hid (Held w0 a b c x y z 3 w)) :
    (w.setCell ⟨w0.heap.size + 1, i, none⟩ v).cell? ⟨w0.heap.size, 0, none⟩ = some u0 ∧ (w.setCell ⟨w0.heap.size + 1, i, none⟩ v).cell? ⟨w0.heap.size, 1, none⟩ = some u1 ∧ (w.setCell ⟨w0.heap.size + 1, i, none⟩ v).cell? ⟨w0.heap.size, 2, none⟩ = some u2 ∧ Hid (Held w0 a b c x y z 3 (w.setCell ⟨w0.heap.size + 1, i, none⟩ v)) := by
  obtain ⟨h0, h1, h2, hh⟩ := h
  exact ⟨by rw [World.cell?_setCell_far _ _ _ _ (by simp)]; exact h0, by rw [World.cell?_setCell_far _ _ _ _ (by simp)]; exact h1, by rw [World.cell?_setCell_far _ _ _ _ (by simp)]; exact h2, hh.out.set hi hv⟩

theorem held3 {w0 : World} {a b c : Option Addr} {x y z : Option Int} {w : World} {u0 u1 u2 : Value} (h : w.cell? ⟨w0.heap.size, 0, none⟩ = some u0 ∧ w.cell? ⟨w0.heap.size, 1, none⟩ = some u1 ∧ w.cell? ⟨w0.heap.size, 2, none⟩ = some u2 ∧ Hid (Held w0 a b c x y z 3 w)) : Held w0 a b c x y z 3 w := h.2.2.2.out

/-- What zzCloneLimitsIn leaves. -/
def Cloned3 (x y z : Option Int) (e : Ending) (w' : World) : Prop :=
  ∃ p q r, e = .returned (.agg #[.pointer p, .pointer q, .pointer r]) ∧ IsPtr w' p x ∧ IsPtr w' q y ∧ IsPtr w' r z

set_option maxHeartbeats 4000000 in
theorem clone_limits (a b c : Option Addr) (x y z : Option Int) (w : World) (ha : IsPtr w a x) (hb : IsPtr w b y) (hc : IsPtr w c z) :
    Calls Try.prog 6 #[.agg #[.pointer a, .pointer b, .pointer c]] w fun e w' => Cloned3  x y z e w' ∧ Below w.heap.size w w' := by
  go_enter Try.func6, Try.ntmps6
  go_wp2
  have h0 : Held w a b c x y z 3 (((w.alloc (Obj.cells #[.pointer a, .pointer b, .pointer c] 29)).alloc (Obj.cells #[.pointer none, .pointer none, .pointer none] 29)).drew) := by
    have hB : Below w.heap.size w (((w.alloc (Obj.cells #[.pointer a, .pointer b, .pointer c] 29)).alloc (Obj.cells #[.pointer none, .pointer none, .pointer none] 29)).drew) := (((Below.refl _ _).alloc (Nat.le_refl _) _).alloc (by simp) _).drew
    refine ⟨ha.below hB, hb.below hB, hc.below hB, hB, by simp, ?_⟩
    intro i hi
    have : i = 0 ∨ i = 1 ∨ i = 2 := by omega
    rcases this with rfl | rfl | rfl <;> exact ⟨⟨_, by simp; rfl, by simp⟩, by simp⟩
  go_region_held3 (fun w' => w'.cell? ⟨w.heap.size, 0, none⟩ = some (.pointer a) ∧ w'.cell? ⟨w.heap.size, 1, none⟩ = some (.pointer b) ∧ w'.cell? ⟨w.heap.size, 2, none⟩ = some (.pointer c) ∧ Hid (Held w a b c x y z 3 w'))
    (first | exact ⟨by simp, by simp, by simp, h0⟩ | exact keep3 hB (by assumption) | exact (keepset3 (i := 2) (by decide) (by simp) (keepset3 (i := 1) (by decide) (by simp) (keepset3 (i := 0) (by decide) (by simp) (by assumption)))))
    (first
      | (go_at_call 13; refine (clone_any _ _ (by have h := held3 (a := a) (b := b) (c := c) (x := x) (y := y) (z := z) (w0 := w) (by assumption); first | exact ⟨x, h.pa⟩ | exact ⟨y, h.pb⟩ | exact ⟨z, h.pc⟩)).mono ?_; rintro e w1 ⟨⟨o, rfl, ho⟩, hB⟩
         have hG : Hid (Held w a b c x y z 3 _) := held3 (by assumption)
         have hH : Hid (Held w a b c x y z 3 w1) := hG.out.below hB
         obtain ⟨⟨v0, hv0, -⟩, hf0⟩ := hH.out.room 0 (by decide)
         obtain ⟨⟨v1, hv1, -⟩, hf1⟩ := hH.out.room 1 (by decide)
         obtain ⟨⟨v2, hv2, -⟩, hf2⟩ := hH.out.room 2 (by decide)))
  go_wp2
  rename_i wa hBa oa hoa hGa hHa hfa0 va0 hva0 hfa1 va1 hva1 hfa2 va2 hva2 wb hBb ob hob hGb hHb hfb0 vb0 hvb0 hfb1 vb1 hvb1 hfb2 vb2 hvb2 hLast
  have hF : Held w oa ob o x y z 3 w1 := ⟨((hoa x hGa.out.pa).below hBb).below hB, (hob y hGb.out.pb).below hB, ho z hG.out.pc, hH.out.bel, hH.out.big, hH.out.room⟩
  have hG := (((hF.set (i := 0) (by decide) (v := .pointer oa) (by simp)).set (i := 1) (by decide) (v := .pointer ob) (by simp)).set (i := 2) (by decide) (v := .pointer o) (by simp))
  refine bodyPost_ret (v := .agg #[.pointer oa, .pointer ob, .pointer o]) (by simp [results, Try.results6, go_sem, hv0, hv1, hv2]) rfl ⟨⟨_, _, _, rfl, hG.pa, hG.pb, hG.pc⟩, hG.bel⟩

end Go.Proofs.Qxb6619391a
