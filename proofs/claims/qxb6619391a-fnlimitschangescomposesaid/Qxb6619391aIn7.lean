import Derived.Test.Qxb6619391aIn
namespace Go.Proofs.Qxb6619391a
open Go.RowKit

/-- The cells of the boxed parameter. -/
theorem keep6 {w0 : World} {a b c : Option Addr} {x y z : Option Int} {w w' : World} {u0 u1 u2 u3 u4 u5 : Value} (hb : Below w.heap.size w w')
    (h : w.cell? ⟨w0.heap.size, 0, none⟩ = some u0 ∧ w.cell? ⟨w0.heap.size, 1, none⟩ = some u1 ∧ w.cell? ⟨w0.heap.size, 2, none⟩ = some u2 ∧ w.cell? ⟨w0.heap.size, 3, none⟩ = some u3 ∧ w.cell? ⟨w0.heap.size, 4, none⟩ = some u4 ∧ w.cell? ⟨w0.heap.size, 5, none⟩ = some u5 ∧ Hid (Held w0 a b c x y z 6 w)) :
    w'.cell? ⟨w0.heap.size, 0, none⟩ = some u0 ∧ w'.cell? ⟨w0.heap.size, 1, none⟩ = some u1 ∧ w'.cell? ⟨w0.heap.size, 2, none⟩ = some u2 ∧ w'.cell? ⟨w0.heap.size, 3, none⟩ = some u3 ∧ w'.cell? ⟨w0.heap.size, 4, none⟩ = some u4 ∧ w'.cell? ⟨w0.heap.size, 5, none⟩ = some u5 ∧ Hid (Held w0 a b c x y z 6 w') := by
  obtain ⟨h0, h1, h2, h3, h4, h5, hh⟩ := h
  have hl : w0.heap.size < w.heap.size := Nat.lt_of_succ_lt hh.out.big
  exact ⟨cell_below hb hl h0, cell_below hb hl h1, cell_below hb hl h2, cell_below hb hl h3, cell_below hb hl h4, cell_below hb hl h5, hh.out.below hb⟩

theorem keepset6 {w0 : World} {a b c : Option Addr} {x y z : Option Int} {w : World} {u0 u1 u2 u3 u4 u5 : Value} {i : Nat} {v : Value} (hi : i < 6) (hv : ∀ m, v ≠ .int .i64 m)
    (h : w.cell? ⟨w0.heap.size, 0, none⟩ = some u0 ∧ w.cell? ⟨w0.heap.size, 1, none⟩ = some u1 ∧ w.cell? ⟨w0.heap.size, 2, none⟩ = some u2 ∧ w.cell? ⟨w0.heap.size, 3, none⟩ = some u3 ∧ w.cell? ⟨w0.heap.size, 4, none⟩ = some u4 ∧ w.cell? ⟨w0.heap.size, 5, none⟩ = some u5 ∧ Hid (Held w0 a b c x y z 6 w)) :
    (w.setCell ⟨w0.heap.size + 1, i, none⟩ v).cell? ⟨w0.heap.size, 0, none⟩ = some u0 ∧ (w.setCell ⟨w0.heap.size + 1, i, none⟩ v).cell? ⟨w0.heap.size, 1, none⟩ = some u1 ∧ (w.setCell ⟨w0.heap.size + 1, i, none⟩ v).cell? ⟨w0.heap.size, 2, none⟩ = some u2 ∧ (w.setCell ⟨w0.heap.size + 1, i, none⟩ v).cell? ⟨w0.heap.size, 3, none⟩ = some u3 ∧ (w.setCell ⟨w0.heap.size + 1, i, none⟩ v).cell? ⟨w0.heap.size, 4, none⟩ = some u4 ∧ (w.setCell ⟨w0.heap.size + 1, i, none⟩ v).cell? ⟨w0.heap.size, 5, none⟩ = some u5 ∧ Hid (Held w0 a b c x y z 6 (w.setCell ⟨w0.heap.size + 1, i, none⟩ v)) := by
  obtain ⟨h0, h1, h2, h3, h4, h5, hh⟩ := h
  exact ⟨by rw [World.cell?_setCell_far _ _ _ _ (by simp)]; exact h0, by rw [World.cell?_setCell_far _ _ _ _ (by simp)]; exact h1, by rw [World.cell?_setCell_far _ _ _ _ (by simp)]; exact h2, by rw [World.cell?_setCell_far _ _ _ _ (by simp)]; exact h3, by rw [World.cell?_setCell_far _ _ _ _ (by simp)]; exact h4, by rw [World.cell?_setCell_far _ _ _ _ (by simp)]; exact h5, hh.out.set hi hv⟩

theorem held6 {w0 : World} {a b c : Option Addr} {x y z : Option Int} {w : World} {u0 u1 u2 u3 u4 u5 : Value} (h : w.cell? ⟨w0.heap.size, 0, none⟩ = some u0 ∧ w.cell? ⟨w0.heap.size, 1, none⟩ = some u1 ∧ w.cell? ⟨w0.heap.size, 2, none⟩ = some u2 ∧ w.cell? ⟨w0.heap.size, 3, none⟩ = some u3 ∧ w.cell? ⟨w0.heap.size, 4, none⟩ = some u4 ∧ w.cell? ⟨w0.heap.size, 5, none⟩ = some u5 ∧ Hid (Held w0 a b c x y z 6 w)) : Held w0 a b c x y z 6 w := h.2.2.2.2.2.2.out

theorem keep6n {w0 : World} {a b c : Option Addr} {x y z : Option Int} {w w' : World} {u0 u1 u2 u3 u4 u5 : Value} {na : Nat} (hna : w0.heap.size = na) (hb : Below w.heap.size w w')
    (h : w.cell? ⟨na, 0, none⟩ = some u0 ∧ w.cell? ⟨na, 1, none⟩ = some u1 ∧ w.cell? ⟨na, 2, none⟩ = some u2 ∧ w.cell? ⟨na, 3, none⟩ = some u3 ∧ w.cell? ⟨na, 4, none⟩ = some u4 ∧ w.cell? ⟨na, 5, none⟩ = some u5 ∧ Hid (Held w0 a b c x y z 6 w)) :
    w'.cell? ⟨na, 0, none⟩ = some u0 ∧ w'.cell? ⟨na, 1, none⟩ = some u1 ∧ w'.cell? ⟨na, 2, none⟩ = some u2 ∧ w'.cell? ⟨na, 3, none⟩ = some u3 ∧ w'.cell? ⟨na, 4, none⟩ = some u4 ∧ w'.cell? ⟨na, 5, none⟩ = some u5 ∧ Hid (Held w0 a b c x y z 6 w') := by
  subst hna; exact keep6 hb h

theorem keepset6n {w0 : World} {a b c : Option Addr} {x y z : Option Int} {w : World} {u0 u1 u2 u3 u4 u5 : Value} {na nb : Nat} (hna : w0.heap.size = na) (hnb : w0.heap.size + 1 = nb) {i : Nat} {v : Value} (hi : i < 6) (hv : ∀ m, v ≠ .int .i64 m)
    (h : w.cell? ⟨na, 0, none⟩ = some u0 ∧ w.cell? ⟨na, 1, none⟩ = some u1 ∧ w.cell? ⟨na, 2, none⟩ = some u2 ∧ w.cell? ⟨na, 3, none⟩ = some u3 ∧ w.cell? ⟨na, 4, none⟩ = some u4 ∧ w.cell? ⟨na, 5, none⟩ = some u5 ∧ Hid (Held w0 a b c x y z 6 w)) :
    (w.setCell ⟨nb, i, none⟩ v).cell? ⟨na, 0, none⟩ = some u0 ∧ (w.setCell ⟨nb, i, none⟩ v).cell? ⟨na, 1, none⟩ = some u1 ∧ (w.setCell ⟨nb, i, none⟩ v).cell? ⟨na, 2, none⟩ = some u2 ∧ (w.setCell ⟨nb, i, none⟩ v).cell? ⟨na, 3, none⟩ = some u3 ∧ (w.setCell ⟨nb, i, none⟩ v).cell? ⟨na, 4, none⟩ = some u4 ∧ (w.setCell ⟨nb, i, none⟩ v).cell? ⟨na, 5, none⟩ = some u5 ∧ Hid (Held w0 a b c x y z 6 (w.setCell ⟨nb, i, none⟩ v)) := by
  subst hna hnb; exact keepset6 hi hv h

theorem keepall6 {w0 : World} {a b c : Option Addr} {x y z : Option Int} {w : World} {u0 u1 u2 u3 u4 u5 : Value} {na nb : Nat} {l m n : Bool} {p q r : Option Addr} (hna : w0.heap.size = na) (hnb : w0.heap.size + 1 = nb)
    (h : w.cell? ⟨na, 0, none⟩ = some u0 ∧ w.cell? ⟨na, 1, none⟩ = some u1 ∧ w.cell? ⟨na, 2, none⟩ = some u2 ∧ w.cell? ⟨na, 3, none⟩ = some u3 ∧ w.cell? ⟨na, 4, none⟩ = some u4 ∧ w.cell? ⟨na, 5, none⟩ = some u5 ∧ Hid (Held w0 a b c x y z 6 w)) :
    ((((((w.setCell ⟨nb, 0, none⟩ (.bool l)).setCell ⟨nb, 1, none⟩ (.pointer p)).setCell ⟨nb, 2, none⟩ (.bool m)).setCell ⟨nb, 3, none⟩ (.pointer q)).setCell ⟨nb, 4, none⟩ (.bool n)).setCell ⟨nb, 5, none⟩ (.pointer r)).cell? ⟨na, 0, none⟩ = some u0 ∧ ((((((w.setCell ⟨nb, 0, none⟩ (.bool l)).setCell ⟨nb, 1, none⟩ (.pointer p)).setCell ⟨nb, 2, none⟩ (.bool m)).setCell ⟨nb, 3, none⟩ (.pointer q)).setCell ⟨nb, 4, none⟩ (.bool n)).setCell ⟨nb, 5, none⟩ (.pointer r)).cell? ⟨na, 1, none⟩ = some u1 ∧ ((((((w.setCell ⟨nb, 0, none⟩ (.bool l)).setCell ⟨nb, 1, none⟩ (.pointer p)).setCell ⟨nb, 2, none⟩ (.bool m)).setCell ⟨nb, 3, none⟩ (.pointer q)).setCell ⟨nb, 4, none⟩ (.bool n)).setCell ⟨nb, 5, none⟩ (.pointer r)).cell? ⟨na, 2, none⟩ = some u2 ∧ ((((((w.setCell ⟨nb, 0, none⟩ (.bool l)).setCell ⟨nb, 1, none⟩ (.pointer p)).setCell ⟨nb, 2, none⟩ (.bool m)).setCell ⟨nb, 3, none⟩ (.pointer q)).setCell ⟨nb, 4, none⟩ (.bool n)).setCell ⟨nb, 5, none⟩ (.pointer r)).cell? ⟨na, 3, none⟩ = some u3 ∧ ((((((w.setCell ⟨nb, 0, none⟩ (.bool l)).setCell ⟨nb, 1, none⟩ (.pointer p)).setCell ⟨nb, 2, none⟩ (.bool m)).setCell ⟨nb, 3, none⟩ (.pointer q)).setCell ⟨nb, 4, none⟩ (.bool n)).setCell ⟨nb, 5, none⟩ (.pointer r)).cell? ⟨na, 4, none⟩ = some u4 ∧ ((((((w.setCell ⟨nb, 0, none⟩ (.bool l)).setCell ⟨nb, 1, none⟩ (.pointer p)).setCell ⟨nb, 2, none⟩ (.bool m)).setCell ⟨nb, 3, none⟩ (.pointer q)).setCell ⟨nb, 4, none⟩ (.bool n)).setCell ⟨nb, 5, none⟩ (.pointer r)).cell? ⟨na, 5, none⟩ = some u5 ∧ Hid (Held w0 a b c x y z 6 ((((((w.setCell ⟨nb, 0, none⟩ (.bool l)).setCell ⟨nb, 1, none⟩ (.pointer p)).setCell ⟨nb, 2, none⟩ (.bool m)).setCell ⟨nb, 3, none⟩ (.pointer q)).setCell ⟨nb, 4, none⟩ (.bool n)).setCell ⟨nb, 5, none⟩ (.pointer r))) :=
  (keepset6n hna hnb (i := 5) (by decide) (by simp) (keepset6n hna hnb (i := 4) (by decide) (by simp) (keepset6n hna hnb (i := 3) (by decide) (by simp) (keepset6n hna hnb (i := 2) (by decide) (by simp) (keepset6n hna hnb (i := 1) (by decide) (by simp) (keepset6n hna hnb (i := 0) (by decide) (by simp) h))))))

theorem held6n {w0 : World} {a b c : Option Addr} {x y z : Option Int} {w : World} {u0 u1 u2 u3 u4 u5 : Value} {na : Nat} (h : w.cell? ⟨na, 0, none⟩ = some u0 ∧ w.cell? ⟨na, 1, none⟩ = some u1 ∧ w.cell? ⟨na, 2, none⟩ = some u2 ∧ w.cell? ⟨na, 3, none⟩ = some u3 ∧ w.cell? ⟨na, 4, none⟩ = some u4 ∧ w.cell? ⟨na, 5, none⟩ = some u5 ∧ Hid (Held w0 a b c x y z 6 w)) : Held w0 a b c x y z 6 w := h.2.2.2.2.2.2.out

theorem Held.setn {w0 : World} {a b c : Option Addr} {x y z : Option Int} {k : Nat} {w : World} (h : Held w0 a b c x y z k w) {nb : Nat} (hnb : w0.heap.size + 1 = nb) {i : Nat} (hi : i < k) {v : Value} (hv : ∀ m, v ≠ .int .i64 m) :
    Held w0 a b c x y z k (w.setCell ⟨nb, i, none⟩ v) := by
  subst hnb; exact h.set hi hv

/-- What zzCloneLimitsChangeIn leaves. -/
def Cloned6 (l m n : Bool) (x y z : Option Int) (e : Ending) (w' : World) : Prop :=
  ∃ p q r, e = .returned (.agg #[.bool l, .pointer p, .bool m, .pointer q, .bool n, .pointer r]) ∧ IsPtr w' p x ∧ IsPtr w' q y ∧ IsPtr w' r z

set_option maxHeartbeats 4000000 in
theorem clone_change (a b c : Option Addr) (l m n : Bool) (x y z : Option Int) (w : World) (ha : IsPtr w a x) (hb : IsPtr w b y) (hc : IsPtr w c z) :
    Calls Try.prog 7 #[.agg #[.bool l, .pointer a, .bool m, .pointer b, .bool n, .pointer c]] w fun e w' => Cloned6 l m n x y z e w' ∧ Below w.heap.size w w' := by
  go_enter Try.func7, Try.ntmps7
  go_wp2
  have h0 : Held w a b c x y z 6 (((w.alloc (Obj.cells #[.bool l, .pointer a, .bool m, .pointer b, .bool n, .pointer c] 31)).alloc (Obj.cells #[.bool false, .pointer none, .bool false, .pointer none, .bool false, .pointer none] 31)).drew) := by
    have hB : Below w.heap.size w (((w.alloc (Obj.cells #[.bool l, .pointer a, .bool m, .pointer b, .bool n, .pointer c] 31)).alloc (Obj.cells #[.bool false, .pointer none, .bool false, .pointer none, .bool false, .pointer none] 31)).drew) := (((Below.refl _ _).alloc (Nat.le_refl _) _).alloc (by simp) _).drew
    refine ⟨ha.below hB, hb.below hB, hc.below hB, hB, by simp, ?_⟩
    intro i hi
    have : i = 0 ∨ i = 1 ∨ i = 2 ∨ i = 3 ∨ i = 4 ∨ i = 5 := by omega
    rcases this with rfl | rfl | rfl | rfl | rfl | rfl <;> exact ⟨⟨_, by simp; rfl, by simp⟩, by simp⟩
  have hS0 : (((w.alloc (Obj.cells #[.bool l, .pointer a, .bool m, .pointer b, .bool n, .pointer c] 31)).alloc (Obj.cells #[.bool false, .pointer none, .bool false, .pointer none, .bool false, .pointer none] 31)).drew).cell? ⟨w.heap.size, 0, none⟩ = some (.bool l) ∧ (((w.alloc (Obj.cells #[.bool l, .pointer a, .bool m, .pointer b, .bool n, .pointer c] 31)).alloc (Obj.cells #[.bool false, .pointer none, .bool false, .pointer none, .bool false, .pointer none] 31)).drew).cell? ⟨w.heap.size, 1, none⟩ = some (.pointer a) ∧ (((w.alloc (Obj.cells #[.bool l, .pointer a, .bool m, .pointer b, .bool n, .pointer c] 31)).alloc (Obj.cells #[.bool false, .pointer none, .bool false, .pointer none, .bool false, .pointer none] 31)).drew).cell? ⟨w.heap.size, 2, none⟩ = some (.bool m) ∧ (((w.alloc (Obj.cells #[.bool l, .pointer a, .bool m, .pointer b, .bool n, .pointer c] 31)).alloc (Obj.cells #[.bool false, .pointer none, .bool false, .pointer none, .bool false, .pointer none] 31)).drew).cell? ⟨w.heap.size, 3, none⟩ = some (.pointer b) ∧ (((w.alloc (Obj.cells #[.bool l, .pointer a, .bool m, .pointer b, .bool n, .pointer c] 31)).alloc (Obj.cells #[.bool false, .pointer none, .bool false, .pointer none, .bool false, .pointer none] 31)).drew).cell? ⟨w.heap.size, 4, none⟩ = some (.bool n) ∧ (((w.alloc (Obj.cells #[.bool l, .pointer a, .bool m, .pointer b, .bool n, .pointer c] 31)).alloc (Obj.cells #[.bool false, .pointer none, .bool false, .pointer none, .bool false, .pointer none] 31)).drew).cell? ⟨w.heap.size, 5, none⟩ = some (.pointer c) ∧ Hid (Held w a b c x y z 6 (((w.alloc (Obj.cells #[.bool l, .pointer a, .bool m, .pointer b, .bool n, .pointer c] 31)).alloc (Obj.cells #[.bool false, .pointer none, .bool false, .pointer none, .bool false, .pointer none] 31)).drew)) := ⟨by simp, by simp, by simp, by simp, by simp, by simp, h0⟩
  clear h0 ha hb hc
  generalize ((w.alloc (Obj.cells #[.bool l, .pointer a, .bool m, .pointer b, .bool n, .pointer c] 31)).alloc (Obj.cells #[.bool false, .pointer none, .bool false, .pointer none, .bool false, .pointer none] 31)) = wS at hS0 ⊢
  generalize hnb : w.heap.size + 1 = nb at hS0 ⊢
  generalize hna : w.heap.size = na at hS0 ⊢
  go_region_held3 (fun w' => w'.cell? ⟨na, 0, none⟩ = some (.bool l) ∧ w'.cell? ⟨na, 1, none⟩ = some (.pointer a) ∧ w'.cell? ⟨na, 2, none⟩ = some (.bool m) ∧ w'.cell? ⟨na, 3, none⟩ = some (.pointer b) ∧ w'.cell? ⟨na, 4, none⟩ = some (.bool n) ∧ w'.cell? ⟨na, 5, none⟩ = some (.pointer c) ∧ Hid (Held w a b c x y z 6 w'))
    (first | with_reducible assumption | (with_reducible apply keep6n hna hB; with_reducible assumption) | (with_reducible apply keepall6 hna hnb; with_reducible assumption))
    (first
      | (go_at_call 13; first | with_reducible (show Calls Try.prog 13 #[.pointer a] _ _) | with_reducible (show Calls Try.prog 13 #[.pointer b] _ _)
         refine (clone_any _ _ (by have h := held6n (a := a) (b := b) (c := c) (x := x) (y := y) (z := z) (w0 := w) (by with_reducible assumption); first | exact ⟨x, h.pa⟩ | exact ⟨y, h.pb⟩ | exact ⟨z, h.pc⟩)).mono ?_; rintro e w1 ⟨⟨o, rfl, ho⟩, hB⟩
         have hG : Hid (Held w a b c x y z 6 _) := held6n (by with_reducible assumption)
         have hH : Hid (Held w a b c x y z 6 w1) := hG.out.below hB)
      | (go_at_call 13; refine (clone_any _ _ (by have h := held6n (a := a) (b := b) (c := c) (x := x) (y := y) (z := z) (w0 := w) (by with_reducible assumption); first | exact ⟨x, h.pa⟩ | exact ⟨y, h.pb⟩ | exact ⟨z, h.pc⟩)).mono ?_; rintro e w1 ⟨⟨o, rfl, ho⟩, hB⟩
         have hG : Hid (Held w a b c x y z 6 _) := held6n (by with_reducible assumption)
         have hH : Hid (Held w a b c x y z 6 w1) := hG.out.below hB
         have hR : Room w1 nb 6 := hnb ▸ hH.out.room
         obtain ⟨⟨v0, hv0, -⟩, hf0⟩ := hR 0 (by decide)
         obtain ⟨⟨v1, hv1, -⟩, hf1⟩ := hR 1 (by decide)
         obtain ⟨⟨v2, hv2, -⟩, hf2⟩ := hR 2 (by decide)
         obtain ⟨⟨v3, hv3, -⟩, hf3⟩ := hR 3 (by decide)
         obtain ⟨⟨v4, hv4, -⟩, hf4⟩ := hR 4 (by decide)
         obtain ⟨⟨v5, hv5, -⟩, hf5⟩ := hR 5 (by decide)))
  go_wp2
  rename_i wa hBa oa hoa hGa hHa wb hBb ob hob hGb hHb hLast
  have hF : Held w oa ob o x y z 6 w1 := ⟨((hoa x hGa.out.pa).below hBb).below hB, (hob y hGb.out.pb).below hB, ho z hG.out.pc, hH.out.bel, hH.out.big, hH.out.room⟩
  have hG := ((((((hF.setn hnb (i := 0) (by decide) (v := .bool l) (by simp)).setn hnb (i := 1) (by decide) (v := .pointer oa) (by simp)).setn hnb (i := 2) (by decide) (v := .bool m) (by simp)).setn hnb (i := 3) (by decide) (v := .pointer ob) (by simp)).setn hnb (i := 4) (by decide) (v := .bool n) (by simp)).setn hnb (i := 5) (by decide) (v := .pointer o) (by simp))
  refine bodyPost_ret (v := .agg #[.bool l, .pointer oa, .bool m, .pointer ob, .bool n, .pointer o]) (by simp [results, Try.results7, go_sem, hv0, hv1, hv2, hv3, hv4, hv5]) rfl ⟨⟨_, _, _, rfl, hG.pa, hG.pb, hG.pc⟩, hG.bel⟩

end Go.Proofs.Qxb6619391a
