import Derived.Test.Qxb6619391aLaw
import Derived.Lib.SmallJoins
namespace Go.Proofs.Qxb6619391a
open Go.ChangeShapes Go.WideShapes Go.ChangeAt Go.RowKit Go.Joins Go.Deep

theorem cells29 : Try.prog.cellsOf 29 = 3 := by kernel_rfl
theorem cells31 : Try.prog.cellsOf 31 = 6 := by kernel_rfl
theorem k4 : Try.prog.cellsOf 4 = 1 := by kernel_rfl
theorem k23 : Try.prog.cellsOf 23 = 1 := by kernel_rfl
theorem cells2 : Try.prog.cellsOf 2 = 1 := by kernel_rfl

section
variable {H : Type} {enc : TypeId × Value → H} {W : World}

/-- A pointer to an int64 that came in. -/
theorem ptr_of {fuel : Nat} {v : Value} {y : DataW H × List MemPlace} (h : DataW.trod enc Try.prog W 0 (fun _ => true) true fuel 23 [v] = some y) :
    ∃ o x, v = .pointer o ∧ IsPtr W o x := by
  rcases DataW.trod_pointer Try.underlying23 h with ⟨hv, _⟩ | ⟨a, cs, y', n, _, hv, _, hc, hd⟩
  · simp at hv
    exact ⟨none, none, hv, ⟨.inl ⟨rfl, rfl⟩⟩⟩
  · simp at hv
    subst hv
    obtain ⟨k, rfl, _, _⟩ := DataW.trod_int Try.underlying2 hd
    rw [cells2] at hc
    simp [World.cells?, List.range_succ] at hc
    obtain ⟨c, hc, hk⟩ := Option.bind_eq_some_iff.1 hc
    simp at hk
    subst hk
    obtain ⟨b, off, spot⟩ := a
    have hs : spot = none := by simpa [Addr.add] using World.cell?_spot hc
    subst hs
    have hc' : W.cell? ⟨b, off, none⟩ = some (.int .i64 k) := by simpa [Addr.add] using hc
    exact ⟨_, some k, rfl, ⟨.inr ⟨b, off, k, rfl, rfl, World.block_lt_of_cell? _ _ hc', hc'⟩⟩⟩

theorem bool_of {fuel : Nat} {v : Value} {y : DataW H × List MemPlace} (h : DataW.trod enc Try.prog W 0 (fun _ => true) true fuel 4 [v] = some y) : ∃ b, v = .bool b := by
  obtain ⟨b, hb, _⟩ := DataW.trod_bool Try.underlying4 h
  simp at hb
  exact ⟨b, hb⟩

theorem open29 {r : Reach} {b0 : Nat} {v : Value} {d : DataW H} {p : List MemPlace} (hv : Value.okWide Try.prog W r b0 29 v) (h : DataW.Trod enc Try.prog W 0 (fun _ => true) true 29 v d p) :
    ∃ a b c x y z, v = .agg #[.pointer a, .pointer b, .pointer c] ∧ IsPtr W a x ∧ IsPtr W b y ∧ IsPtr W c z := by
  obtain ⟨v0, v1, v2, y0, y1, y2, n, rfl, _, _, h0, h1, h2⟩ := open_agg3 Try.underlying29 (by kernel_rfl) cells29 hv h
  obtain ⟨a, x, rfl, ha⟩ := ptr_of h0
  obtain ⟨b, y, rfl, hb⟩ := ptr_of h1
  obtain ⟨c, z, rfl, hc⟩ := ptr_of h2
  exact ⟨a, b, c, x, y, z, rfl, ha, hb, hc⟩

theorem array6 {α : Type} {cs : Array α} (h : cs.size = 6) : ∃ c0 c1 c2 c3 c4 c5, cs = #[c0, c1, c2, c3, c4, c5] := by
  obtain ⟨l⟩ := cs
  match l, h with
  | [c0, c1, c2, c3, c4, c5], _ => exact ⟨c0, c1, c2, c3, c4, c5, rfl⟩

theorem some_of {α : Type} {xs : List α} {i : Nat} (h : i < xs.length) : xs[i]? = some xs[i] := List.getElem?_eq_getElem h

theorem open31 {r : Reach} {b0 : Nat} {v : Value} {d : DataW H} {p : List MemPlace} (hv : Value.okWide Try.prog W r b0 31 v) (h : DataW.Trod enc Try.prog W 0 (fun _ => true) true 31 v d p) :
    ∃ l a m b n c x y z, v = .agg #[.bool l, .pointer a, .bool m, .pointer b, .bool n, .pointer c] ∧ IsPtr W a x ∧ IsPtr W b y ∧ IsPtr W c z := by
  obtain ⟨cs, rfl, hsz⟩ := okWide_struct Try.underlying31 hv
  obtain ⟨c0, c1, c2, c3, c4, c5, rfl⟩ := array6 (hsz.trans cells31)
  obtain ⟨fuel, hf⟩ := h
  obtain ⟨xs, n, _, _, _, hlen, hall⟩ := DataW.trod_struct Try.underlying31 hf
  have hl : xs.length = 6 := by rw [hlen]; rfl
  have g0 : DataW.trod enc Try.prog W 0 (fun _ => true) true n 4 [c0] = xs[0]? := by simpa [Value.cells, k4] using hall 0 _ rfl
  have g1 : DataW.trod enc Try.prog W 0 (fun _ => true) true n 23 [c1] = xs[1]? := by simpa [Value.cells, k23] using hall 1 _ rfl
  have g2 : DataW.trod enc Try.prog W 0 (fun _ => true) true n 4 [c2] = xs[2]? := by simpa [Value.cells, k4] using hall 2 _ rfl
  have g3 : DataW.trod enc Try.prog W 0 (fun _ => true) true n 23 [c3] = xs[3]? := by simpa [Value.cells, k23] using hall 3 _ rfl
  have g4 : DataW.trod enc Try.prog W 0 (fun _ => true) true n 4 [c4] = xs[4]? := by simpa [Value.cells, k4] using hall 4 _ rfl
  have g5 : DataW.trod enc Try.prog W 0 (fun _ => true) true n 23 [c5] = xs[5]? := by simpa [Value.cells, k23] using hall 5 _ rfl
  obtain ⟨l, rfl⟩ := bool_of (g0.trans (some_of (by omega)))
  obtain ⟨a, x, rfl, ha⟩ := ptr_of (g1.trans (some_of (by omega)))
  obtain ⟨m, rfl⟩ := bool_of (g2.trans (some_of (by omega)))
  obtain ⟨b, y, rfl, hb⟩ := ptr_of (g3.trans (some_of (by omega)))
  obtain ⟨k, rfl⟩ := bool_of (g4.trans (some_of (by omega)))
  obtain ⟨c, z, rfl, hc⟩ := ptr_of (g5.trans (some_of (by omega)))
  exact ⟨l, a, m, b, k, c, x, y, z, rfl, ha, hb, hc⟩
end
end Go.Proofs.Qxb6619391a
