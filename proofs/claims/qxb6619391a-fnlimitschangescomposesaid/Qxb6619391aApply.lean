import Derived.Test.Qxb6619391aPlain
import Derived.Handy
namespace Go.Proofs.Qxb6619391a
open Go.RowKit

set_option maxHeartbeats 8000000 in
theorem apply_said (l m n : Bool) (a b c o p q : Option Addr) (w : World) :
    Calls Try.prog 16 #[.agg #[.bool l, .pointer a, .bool m, .pointer b, .bool n, .pointer c], .agg #[.pointer o, .pointer p, .pointer q]] w fun e w' =>
      e = .returned (.agg #[.pointer (sel l a o), .pointer (sel m b p), .pointer (sel n c q)]) ∧ Below w.heap.size w w' := by
  cases l <;> cases m <;> cases n
  all_goals
    go_enter Try.func16, Try.ntmps16
    go_wp2
    go_rounds 4
    refine bodyPost_ret (by simp [results, Try.results16, go_sem]; rfl) rfl ⟨by simp, ?_⟩
    go_grown
end Go.Proofs.Qxb6619391a
