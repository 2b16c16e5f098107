/-
  'Rows.FnLimitsChangesComposeSaid' PROVED. The frame is the guide's own way (the skeleton tool's print, 'Below'), turned to structs of pointers by value; the walk stands in Qxb6619391aLaw.
-/
import Derived.Test.Qxb6619391aRows
import Derived.Test.Qxb6619391aOpen
import Derived.WalkKit
import Derived.ProofKit
import Derived.OpenShut
import Derived.ShutString
import Derived.ChangeOld
import Derived.Below
namespace Go.Proofs.Qxb6619391a.fnLimitsChangesCompose
open Go.ChangeShapes Go.WideShapes Go.ChangeAt Go.RowKit
set_option linter.unusedVariables false

theorem own : ownKnob Try.prog.godebug = none := by kernel_rfl
theorem laidOut : laidOutB Try.prog = true := by kernel_rfl

/-- The state in which the law's walk begins. -/
theorem start {W : World} {a b c a1 b1 c1 a2 b2 c2 ta tb tc : Option Addr} {x y z x1 y1 z1 x2 y2 z2 xt yt zt : Option Int} (h1 : IsPtr W a x) (h2 : IsPtr W b y) (h3 : IsPtr W c z) (h4 : IsPtr W a1 x1) (h5 : IsPtr W b1 y1) (h6 : IsPtr W c1 z1)
    (h7 : IsPtr W a2 x2) (h8 : IsPtr W b2 y2) (h9 : IsPtr W c2 z2) (h10 : IsPtr W ta xt) (h11 : IsPtr W tb yt) (h12 : IsPtr W tc zt) :
    St W W [(a, x), (b, y), (c, z), (ta, xt), (tb, yt), (tc, zt), (a1, x1), (b1, y1), (c1, z1), (a2, x2), (b2, y2), (c2, z2)] [] := by
  have h0 : St W W [] [] := ⟨Below.refl _ _, fun _ h => (List.not_mem_nil h).elim, fun _ h => (List.not_mem_nil h).elim, fun _ h => (List.not_mem_nil h).elim, fun _ h => (List.not_mem_nil h).elim⟩
  exact ((((h0.ptrs h7 h8 h9).ptrs h4 h5 h6).ptrs h10 h11 h12).ptrs h1 h2 h3)

/-! ### THE ROW's STEP: WRITTEN OUT: LEAVE IT -/
set_option maxRecDepth 100000 in
theorem lifted (os : Os) (started : os.Started) (H : Type) (enc : TypeId × Value → H) :
    ReturnsInHanded {} Try.checked os 4 .any (Rows.fnLimitsChangesComposeSpec.pre6 enc Try.prog Try.f4 Rows.fnLimitsChangesComposeRow.domain false) (Rows.fnLimitsChangesComposeSpec.post enc Try.prog Try.f4 false true false false) := by
  refine returnsInHanded_of_change (C := Try.checked) own started (by kernel_rfl) Try.func4
    (ChangeSpec.witness6 (enc := enc) (C := Try.checked) false ⟨#[], #[.agg #[.pointer none, .pointer none, .pointer none], .agg #[.bool false, .pointer none, .bool false, .pointer none, .bool false, .pointer none], .agg #[.bool false, .pointer none, .bool false, .pointer none, .bool false, .pointer none], .agg #[.pointer none, .pointer none, .pointer none]], []⟩ 8 (by kernel_rfl) (by kernel_rfl) (by kernel_rfl) (by kernel_rfl)) ?_
  intro W base args ds gs before hval0 hW hcnd _
  have hval : ∀ (j : Nat) t v, Try.f4.params[j]? = some t → args[j]? = some v → Value.okWide Try.prog W .any base t v := hval0
  have hW' := hW
  obtain ⟨p, q, hA0, hV, rfl, hfz, hnd⟩ := hW
  have hA : DataW.TrodAll enc Try.prog W 0 (fun _ => true) true Try.f4.params.toList args.toList ds p := hA0
  rw [Try.params4] at hA hval
  obtain ⟨v0, vs0, d0, ds0, p0, q0, hargs, rfl, rfl, k0, r0⟩ := trodAll_cons hA
  obtain ⟨v1, vs1, d1, ds1, p1, q1, rfl, rfl, rfl, k1, r1⟩ := trodAll_cons r0
  obtain ⟨v2, vs2, d2, ds2, p2, q2, rfl, rfl, rfl, k2, r2⟩ := trodAll_cons r1
  obtain ⟨v3, vs3, d3, ds3, p3, q3, rfl, rfl, rfl, k3, r3⟩ := trodAll_cons r2
  obtain ⟨rfl, rfl, rfl⟩ := trodAll_nil r3
  obtain rfl : args = #[v0, v1, v2, v3] := by cases args; simp_all
  obtain ⟨rfl, rfl⟩ := trodVars_none hV
  have lt0 : ∀ x ∈ p0, x.block < W.heap.size := by obtain ⟨m, hm⟩ := k0; exact DataW.trod_lt m _ _ _ hm
  have lt1 : ∀ x ∈ p1, x.block < W.heap.size := by obtain ⟨m, hm⟩ := k1; exact DataW.trod_lt m _ _ _ hm
  have lt2 : ∀ x ∈ p2, x.block < W.heap.size := by obtain ⟨m, hm⟩ := k2; exact DataW.trod_lt m _ _ _ hm
  have lt3 : ∀ x ∈ p3, x.block < W.heap.size := by obtain ⟨m, hm⟩ := k3; exact DataW.trod_lt m _ _ _ hm
  obtain ⟨a, b, c, x, y, z, rfl, ha, hb, hc⟩ := open29 (hval 0 29 v0 rfl rfl) k0
  obtain ⟨l1, a1, m1, b1, n1, c1, x1, y1, z1, rfl, ha1, hb1, hc1⟩ := open31 (hval 1 31 v1 rfl rfl) k1
  obtain ⟨l2, a2, m2, b2, n2, c2, x2, y2, z2, rfl, ha2, hb2, hc2⟩ := open31 (hval 2 31 v2 rfl rfl) k2
  obtain ⟨ta, tb, tc, xt, yt, zt, rfl, hta, htb, htc⟩ := open29 (hval 3 29 v3 rfl rfl) k3
  clear hA0 hval0
  refine (law_walk a b c ta tb tc l1 m1 n1 l2 m2 n2 a1 b1 c1 a2 b2 c2 x y z xt yt zt x1 y1 z1 x2 y2 z2 W (start ha hb hc ha1 hb1 hc1 ha2 hb2 hc2 hta htb htc)).mono fun e W' ⟨he, bel⟩ => ?_
  subst he
  exact ⟨_, rfl, _, _, _, [], _, [], hW', trodAll_mk1 (shut_bool Try.underlying4 _), (trodAll_cons_mk (Below.trod laidOut (by kernel_rfl) (of_decide_eq_true (by kernel_rfl)) k0 bel lt0) (trodAll_cons_mk (Below.trod laidOut (by kernel_rfl) (of_decide_eq_true (by kernel_rfl)) k1 bel lt1) (trodAll_cons_mk (Below.trod laidOut (by kernel_rfl) (of_decide_eq_true (by kernel_rfl)) k2 bel lt2) (trodAll_cons_mk (Below.trod laidOut (by kernel_rfl) (of_decide_eq_true (by kernel_rfl)) k3 bel lt3) trodAll_mk0)))), rfl, bel.frame _, fun h => by cases h⟩

theorem over : Rows.fnLimitsChangesComposeRow.holds Try.pinned (OpenSpec.ofChange Rows.fnLimitsChangesComposeSpec) :=
  OpenClaim.holds_of_wide 4 Try.f4 rfl rfl rfl rfl rfl rfl rfl ⟨rfl, rfl, rfl, rfl, rfl⟩ rfl rfl rfl rfl rfl (by kernel_rfl) Try.func4 (by kernel_rfl)
    (of_decide_eq_true (by kernel_rfl)) (by unfold Func.isWrapper; first | (rw [if_pos (by decide +kernel)]; kernel_rfl) | (rw [if_neg (by decide +kernel)]; exact ⟨rfl, rfl⟩))
    (fun os started H enc _ => lifted os started H enc)

/-- ████ THE STATEMENT ████ -/
theorem proved : Rows.FnLimitsChangesComposeSaid := over
#print axioms proved
end Go.Proofs.Qxb6619391a.fnLimitsChangesCompose
