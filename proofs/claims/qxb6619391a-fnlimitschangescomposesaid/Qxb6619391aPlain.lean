import Derived.Test.Qxb6619391aPtr
import Derived.WalkSmall
namespace Go.Proofs.Qxb6619391a
open Go.RowKit

set_option maxHeartbeats 1000000 in
theorem limits_copy (a b c : Option Addr) (w : World) :
    Calls Try.prog 8 #[.agg #[.pointer a, .pointer b, .pointer c]] w fun e w' => e = .returned (.agg #[.pointer a, .pointer b, .pointer c]) ∧ Below w.heap.size w w' := by
  go_enter Try.func8, Try.ntmps8
  go_wp2
  exact bodyPost_ret (v := .agg #[.pointer a, .pointer b, .pointer c]) (by simp [results, Try.results8, go_sem]) rfl ⟨rfl, (((Below.refl _ _).alloc (Nat.le_refl _) _).alloc (by simp) _)⟩

/-- What was named goes first. -/
def sel {α : Type} (b : Bool) (x y : α) : α := if b then x else y
@[simp] theorem sel_true {α : Type} (x y : α) : sel true x y = x := rfl
@[simp] theorem sel_false {α : Type} (x y : α) : sel false x y = y := rfl

set_option maxHeartbeats 4000000 in
theorem merge_said (l m n l' m' n' : Bool) (a b c a' b' c' : Option Addr) (w : World) :
    Calls Try.prog 10 #[.agg #[.bool l, .pointer a, .bool m, .pointer b, .bool n, .pointer c], .agg #[.bool l', .pointer a', .bool m', .pointer b', .bool n', .pointer c']] w fun e w' =>
      e = .returned (.agg #[.bool (sel l' true l), .pointer (sel l' a' a), .bool (sel m' true m), .pointer (sel m' b' b), .bool (sel n' true n), .pointer (sel n' c' c)]) ∧ Below w.heap.size w w' := by
  cases l' <;> cases m' <;> cases n'
  all_goals
    go_enter Try.func10, Try.ntmps10
    go_wp2
    refine bodyPost_ret (by simp [results, Try.results10, go_sem]; rfl) rfl ⟨by simp, ?_⟩
    exact ((((Below.refl _ _).alloc (Nat.le_refl _) _).alloc (by simp) _).alloc (by simp; omega) _).alloc (by simp; omega) _

set_option maxHeartbeats 4000000 in
theorem eq_ptr (a b : Option Addr) (x : Option Int) (w : World) (ha : IsPtr w a x) (hb : IsPtr w b x) :
    Calls Try.prog 15 #[.pointer a, .pointer b] w fun e w' => e = .returned (.bool true) ∧ Below w.heap.size w w' := by
  rcases ha.out with ⟨rfl, rfl⟩ | ⟨k, f, n, rfl, rfl, hl, hc⟩
  · rcases hb.out with ⟨rfl, -⟩ | ⟨_, _, _, _, h, _⟩
    · go_enter Try.func15, Try.ntmps15
      go_wp2
      go_ret
      exact ⟨rfl, Below.refl _ _⟩
    · cases h
  · rcases hb.out with ⟨-, h⟩ | ⟨k', f', n', rfl, h, hl', hc'⟩
    · cases h
    · cases h
      go_enter Try.func15, Try.ntmps15
      go_wp2
      go_quiet (fail)
      go_wp2
      go_ret
      exact ⟨rfl, below_drewN (Below.refl _ _) _⟩

end Go.Proofs.Qxb6619391a
