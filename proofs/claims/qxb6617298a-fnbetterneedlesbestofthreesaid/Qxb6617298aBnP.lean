import Derived.Test.Qxb6617298aBn5
namespace Go.Proofs.Qxb6617298a

/-- The two groupings and the scan come to one set. -/
def Pick (ka kb kc : Option (Nat × Nat)) (p : Nat) : Prop :=
  ∀ (α : Type) (x y z : α), sel (better (sel (better ka kb) ka kb) kc) (sel (better ka kb) x y) z = (if p = 0 then x else if p = 1 then y else z) ∧
    sel (better ka (sel (better kb kc) kb kc)) x (sel (better kb kc) y z) = (if p = 0 then x else if p = 1 then y else z)

theorem sel_t {α : Type} (x y : α) : sel true x y = x := rfl
theorem sel_f {α : Type} (x y : α) : sel false x y = y := rfl

/-- Is the second key strictly the better one? -/
def Beats (ma na mb nb : Nat) : Prop := ma < mb ∨ (mb = ma ∧ nb < na)

theorem better_t {ma na mb nb : Nat} (h : ¬ Beats ma na mb nb) : better (some (ma, na)) (some (mb, nb)) = true := by
  unfold Beats at h
  unfold better
  by_cases e : ma = mb
  · simp [e]; omega
  · simp [e]; omega
theorem better_f {ma na mb nb : Nat} (h : Beats ma na mb nb) : better (some (ma, na)) (some (mb, nb)) = false := by
  unfold Beats at h
  unfold better
  by_cases e : ma = mb
  · simp [e]; omega
  · simp [e]; omega
theorem scan_t {i ma na mb nb p : Nat} (h : Beats ma na mb nb) : scanStep i (some (mb, nb)) (p, some (ma, na)) = (i, some (mb, nb)) := scan_yes _ _ _ _ _ _ h
theorem scan_f {i ma na mb nb p : Nat} (h : ¬ Beats ma na mb nb) : scanStep i (some (mb, nb)) (p, some (ma, na)) = (p, some (ma, na)) := scan_no _ _ _ _ _ _ h

theorem pick_law (ka kb kc : Option (Nat × Nat)) : (scanTo ka kb kc 3).1 ≤ 2 ∧ Pick ka kb kc (scanTo ka kb kc 3).1 := by
  unfold Pick
  rcases ka with _ | ⟨ma, na⟩ <;> rcases kb with _ | ⟨mb, nb⟩ <;> rcases kc with _ | ⟨mc, nc⟩
  · exact ⟨by simp [scanTo, scan_nil], fun _ _ _ _ => ⟨rfl, rfl⟩⟩
  · exact ⟨by simp [scanTo, scan_nil, scan_first], fun _ _ _ _ => ⟨rfl, rfl⟩⟩
  · exact ⟨by simp [scanTo, scan_nil, scan_first], fun _ _ _ _ => ⟨rfl, rfl⟩⟩
  · by_cases h : Beats mb nb mc nc
    · have e : (scanTo none (some (mb, nb)) (some (mc, nc)) 3).1 = 2 := by simp [scanTo, scan_nil, scan_first, scan_t h]
      have e0 : ∀ k, better none k = false := fun _ => rfl
      rw [e, e0, e0, sel_f, better_f h]
      exact ⟨by omega, fun _ _ _ _ => ⟨by simp [sel_f], by simp [sel_f]⟩⟩
    · have e : (scanTo none (some (mb, nb)) (some (mc, nc)) 3).1 = 1 := by simp [scanTo, scan_nil, scan_first, scan_f h]
      have e0 : ∀ k, better none k = false := fun _ => rfl
      rw [e, e0, e0, sel_f, better_t h]
      exact ⟨by omega, fun _ _ _ _ => ⟨by simp [sel_f, sel_t], by simp [sel_f, sel_t]⟩⟩
  · exact ⟨by simp [scanTo, scan_nil, scan_first], fun _ _ _ _ => ⟨rfl, rfl⟩⟩
  · by_cases h : Beats ma na mc nc
    · have e : (scanTo (some (ma, na)) none (some (mc, nc)) 3).1 = 2 := by simp [scanTo, scan_nil, scan_first, scan_t h]
      rw [e]
      have e1 : better (some (ma, na)) none = true := rfl
      have e2 : better none (some (mc, nc)) = false := rfl
      rw [e1, e2, sel_t, sel_f, better_f h]
      exact ⟨by omega, fun _ _ _ _ => ⟨by simp [sel_f], by simp [sel_f]⟩⟩
    · have e : (scanTo (some (ma, na)) none (some (mc, nc)) 3).1 = 0 := by simp [scanTo, scan_nil, scan_first, scan_f h]
      rw [e]
      have e1 : better (some (ma, na)) none = true := rfl
      have e2 : better none (some (mc, nc)) = false := rfl
      rw [e1, e2, sel_t, sel_f, better_t h]
      exact ⟨by omega, fun _ _ _ _ => ⟨by simp [sel_t], by simp [sel_t]⟩⟩
  · by_cases h : Beats ma na mb nb
    · have e : (scanTo (some (ma, na)) (some (mb, nb)) none 3).1 = 1 := by simp [scanTo, scan_nil, scan_first, scan_t h]
      have e1 : better (some (mb, nb)) none = true := rfl
      rw [e, e1, sel_t, better_f h, sel_f]
      exact ⟨by omega, fun _ _ _ _ => ⟨by simp [e1, sel_f, sel_t], by simp [sel_t, sel_f]⟩⟩
    · have e : (scanTo (some (ma, na)) (some (mb, nb)) none 3).1 = 0 := by simp [scanTo, scan_nil, scan_first, scan_f h]
      have e1 : better (some (mb, nb)) none = true := rfl
      have e2 : better (some (ma, na)) none = true := rfl
      rw [e, e1, sel_t, better_t h, sel_t]
      exact ⟨by omega, fun _ _ _ _ => ⟨by simp [e2, sel_t], by simp [sel_t]⟩⟩
  · by_cases h1 : Beats ma na mb nb
    · by_cases h2 : Beats mb nb mc nc
      · have h3 : Beats ma na mc nc := by unfold Beats at *; omega
        have e : (scanTo (some (ma, na)) (some (mb, nb)) (some (mc, nc)) 3).1 = 2 := by simp [scanTo, scan_first, scan_t h1, scan_t h2]
        rw [e, better_f h1, better_f h2, sel_f, sel_f, better_f h2, better_f h3]
        exact ⟨by omega, fun _ _ _ _ => ⟨by simp [sel_f], by simp [sel_f]⟩⟩
      · have e : (scanTo (some (ma, na)) (some (mb, nb)) (some (mc, nc)) 3).1 = 1 := by simp [scanTo, scan_first, scan_t h1, scan_f h2]
        rw [e, better_f h1, better_t h2, sel_f, sel_t, better_t h2, better_f h1]
        exact ⟨by omega, fun _ _ _ _ => ⟨by simp [sel_f, sel_t], by simp [sel_f, sel_t]⟩⟩
    · by_cases h2 : Beats ma na mc nc
      · have h3 : Beats mb nb mc nc := by unfold Beats at *; omega
        have e : (scanTo (some (ma, na)) (some (mb, nb)) (some (mc, nc)) 3).1 = 2 := by simp [scanTo, scan_first, scan_f h1, scan_t h2]
        rw [e, better_t h1, better_f h3, sel_f, sel_t, better_f h2]
        exact ⟨by omega, fun _ _ _ _ => ⟨by simp [sel_f], by simp [sel_f]⟩⟩
      · have e : (scanTo (some (ma, na)) (some (mb, nb)) (some (mc, nc)) 3).1 = 0 := by simp [scanTo, scan_first, scan_f h1, scan_f h2]
        rw [e, better_t h1, sel_t, better_t h2]
        refine ⟨by omega, fun _ _ _ _ => ⟨by simp [sel_t], ?_⟩⟩
        by_cases h3 : Beats mb nb mc nc
        · rw [better_f h3, sel_f, better_t h2]; simp [sel_t]
        · rw [better_t h3, sel_t, better_t h1]; simp [sel_t]
#print axioms pick_law
end Go.Proofs.Qxb6617298a
