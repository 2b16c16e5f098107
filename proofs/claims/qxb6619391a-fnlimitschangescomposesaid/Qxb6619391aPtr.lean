import Derived.Test.Qxb6619391aProg
import Derived.WalkKit
import Derived.WalkSpells
import Derived.WalkLawsBesides
import Derived.Deep.QuietTactic
import Derived.BigQuiet
import Derived.Deep.DeepCutAuto
import Derived.Deep.RegionWith
import Derived.Deep.RegionHeld
namespace Go.Proofs.Qxb6619391a
open Go.RowKit

/-- A pointer to an int64: nil, or it leads to x. -/
def IsPtr0 (w : World) (o : Option Addr) (x : Option Int) : Prop :=
  (o = none ∧ x = none) ∨ ∃ b f n, o = some ⟨b, f, none⟩ ∧ x = some n ∧ b < w.heap.size ∧ w.cell? ⟨b, f, none⟩ = some (.int .i64 n)

/-- The same, boxed: no tactic looks into it. -/
structure IsPtr (w : World) (o : Option Addr) (x : Option Int) : Prop where
  out : IsPtr0 w o x

theorem IsPtr.below {w w' : World} {o : Option Addr} {x : Option Int} (h : IsPtr w o x) (hb : Below w.heap.size w w') : IsPtr w' o x := by
  rcases h.out with h | ⟨b, f, n, h1, h2, h3, h4⟩
  · exact ⟨.inl h⟩
  · exact ⟨.inr ⟨b, f, n, h1, h2, Nat.lt_of_lt_of_le h3 hb.size, by rw [hb.cell (p := ⟨b, f, none⟩) h3]; exact h4⟩⟩

/-- What zzClonePtr leaves. -/
def Cloned (x : Option Int) (e : Ending) (w' : World) : Prop := ∃ o, e = .returned (.pointer o) ∧ IsPtr w' o x

set_option maxHeartbeats 400000 in
theorem clone_ptr (o : Option Addr) (x : Option Int) (w : World) (h : IsPtr w o x) :
    Calls Try.prog 13 #[.pointer o] w fun e w' => Cloned x e w' ∧ Below w.heap.size w w' := by
  rcases h.out with ⟨rfl, rfl⟩ | ⟨b, f, n, rfl, rfl, hl, hc⟩
  · go_enter Try.func13, Try.ntmps13
    go_wp2
    go_ret
    exact ⟨⟨none, rfl, ⟨.inl ⟨rfl, rfl⟩⟩⟩, Below.refl _ _⟩
  · go_enter Try.func13, Try.ntmps13
    go_wp2
    go_ret
    exact ⟨⟨some ⟨w.heap.size, 0, none⟩, rfl, ⟨.inr ⟨w.heap.size, 0, n, rfl, rfl, by simp, by simp⟩⟩⟩, (Below.refl _ _).alloc (Nat.le_refl _) _⟩

/-- What zzClonePtr leaves, whatever the pointer leads to. -/
def ClonedAny (w : World) (o : Option Addr) (e : Ending) (w' : World) : Prop := ∃ p, e = .returned (.pointer p) ∧ ∀ x, IsPtr w o x → IsPtr w' p x

theorem clone_any (o : Option Addr) (w : World) (h : ∃ x, IsPtr w o x) :
    Calls Try.prog 13 #[.pointer o] w fun e w' => ClonedAny w o e w' ∧ Below w.heap.size w w' := by
  obtain ⟨x, hx⟩ := h
  refine (clone_ptr o x w hx).mono ?_
  rintro e w' ⟨⟨p, rfl, hp⟩, hB⟩
  refine ⟨⟨p, rfl, fun y hy => ?_⟩, hB⟩
  have : x = y := by
    rcases hx.out with ⟨h1, h2⟩ | ⟨b, f, n, h1, h2, h3, h4⟩ <;> rcases hy.out with ⟨k1, k2⟩ | ⟨b', f', n', k1, k2, k3, k4⟩
    · rw [h2, k2]
    · rw [h1] at k1; cases k1
    · rw [h1] at k1; cases k1
    · rw [h1] at k1; cases k1; rw [h4] at k4; cases k4; rw [h2, k2]
  exact this ▸ hp
end Go.Proofs.Qxb6619391a
