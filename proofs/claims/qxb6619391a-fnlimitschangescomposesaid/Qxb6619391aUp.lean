import Derived.Test.Qxb6619391aApply
namespace Go.Proofs.Qxb6619391a
open Go.RowKit

theorem bcell {W w1 : World} (hb : Below W.heap.size W w1) : (∀ b o, b < W.heap.size → w1.cell? ⟨b, o, none⟩ = W.cell? ⟨b, o, none⟩) ∧ (∀ b o, b < W.heap.size → w1.frozen? ⟨b, o, none⟩ = W.frozen? ⟨b, o, none⟩) :=
  ⟨fun b o h => hb.cell (p := ⟨b, o, none⟩) h, fun b o h => hb.frozen (p := ⟨b, o, none⟩) h⟩

set_option maxHeartbeats 4000000 in
theorem apply14 (l m n : Bool) (a b c o p q : Option Addr) (w : World) :
    Calls Try.prog 14 #[.bool l, .pointer a, .bool m, .pointer b, .bool n, .pointer c, .agg #[.pointer o, .pointer p, .pointer q]] w fun e w' =>
      e = .returned (.agg #[.pointer (sel l a o), .pointer (sel m b p), .pointer (sel n c q)]) ∧ Below w.heap.size w w' := by
  go_enter Try.func14, Try.ntmps14
  go_wp2_with fail
  refine (apply_said _ _ _ _ _ _ _ _ _ _).mono ?_
  rintro e w1 ⟨rfl, hB⟩
  obtain ⟨hc, hf⟩ := bcell hB
  have hz : w.heap.size + 1 < w1.heap.size := by have := hB.size; simp at this; omega
  go_wp2
  refine bodyPost_ret (v := .agg #[.pointer (sel l a o), .pointer (sel m b p), .pointer (sel n c q)]) (by simp [results, Try.results14, go_sem, hc]) rfl ⟨rfl, ?_⟩
  exact ((((((Below.refl _ _).alloc (Nat.le_refl _) _).alloc (by simp) _).trans (hB.mono (by simp; omega))).setCell (by simp) _).setCell (by simp) _).setCell (by simp) _

set_option maxHeartbeats 4000000 in
theorem apply9 (l m n : Bool) (a b c o p q : Option Addr) (w : World) :
    Calls Try.prog 9 #[.agg #[.bool l, .pointer a, .bool m, .pointer b, .bool n, .pointer c], .agg #[.pointer o, .pointer p, .pointer q]] w fun e w' =>
      e = .returned (.agg #[.pointer (sel l a o), .pointer (sel m b p), .pointer (sel n c q)]) ∧ Below w.heap.size w w' := by
  go_enter Try.func9, Try.ntmps9
  go_wp2_with fail
  refine (apply14 _ _ _ _ _ _ _ _ _ _).mono ?_
  rintro e w1 ⟨rfl, hB⟩
  obtain ⟨hc, hf⟩ := bcell hB
  have hz : w.heap.size + 2 < w1.heap.size := by have := hB.size; simp at this; omega
  go_wp2
  refine bodyPost_ret (v := .agg #[.pointer (sel l a o), .pointer (sel m b p), .pointer (sel n c q)]) (by simp [results, Try.results9, go_sem, hc]) rfl ⟨rfl, ?_⟩
  exact (((((((Below.refl _ _).alloc (Nat.le_refl _) _).alloc (by simp) _).alloc (by simp; omega) _).trans (hB.mono (by simp; omega))).setCell (by simp; omega) _).setCell (by simp; omega) _).setCell (by simp; omega) _

set_option maxHeartbeats 4000000 in
theorem eq_limits (a b c o p q : Option Addr) (x y z : Option Int) (w : World) (ha : IsPtr w a x) (hb : IsPtr w b y) (hc : IsPtr w c z) (ho : IsPtr w o x) (hp : IsPtr w p y) (hq : IsPtr w q z) :
    Calls Try.prog 11 #[.agg #[.pointer a, .pointer b, .pointer c], .agg #[.pointer o, .pointer p, .pointer q]] w fun e w' =>
      e = .returned (.bool true) ∧ Below w.heap.size w w' := by
  go_enter Try.func11, Try.ntmps11
  go_wp2_with fail
  have hA : Below w.heap.size w ((w.alloc (Obj.cells #[Value.pointer a, Value.pointer b, Value.pointer c] 35)).alloc (Obj.cells #[Value.pointer o, Value.pointer p, Value.pointer q] 35)) := ((Below.refl _ _).alloc (Nat.le_refl _) _).alloc (by simp) _
  refine (eq_ptr _ _ x _ (ha.below hA) (ho.below hA)).mono ?_
  rintro e w1 ⟨rfl, hB1⟩
  obtain ⟨hc1, hf1⟩ := bcell hB1
  go_wp2_with fail
  have hA1 : Below w.heap.size w w1 := hA.trans (hB1.mono (by simp; omega))
  refine (eq_ptr _ _ y _ (hb.below hA1) (hp.below hA1)).mono ?_
  rintro e w2 ⟨rfl, hB2⟩
  obtain ⟨hc2, hf2⟩ := bcell hB2
  have hz1 : w.heap.size + 1 < w1.heap.size := by have := hB1.size; simp at this; omega
  have hz0 : w.heap.size < w1.heap.size := Nat.lt_of_succ_lt hz1
  go_wp2_with fail
  have hA2 : Below w.heap.size w w2 := hA1.trans (hB2.mono hA1.size)
  refine (eq_ptr _ _ z _ (hc.below hA2) (hq.below hA2)).mono ?_
  rintro e w3 ⟨rfl, hB3⟩
  go_wp2
  go_ret
  exact ⟨rfl, hA2.trans (hB3.mono hA2.size)⟩
end Go.Proofs.Qxb6619391a
