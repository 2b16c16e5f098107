import Derived.Test.Qxb6617298aBn3
namespace Go.Proofs.Qxb6617298a
open Go.RowKit

theorem IsNd.shape {w : World} {v : Value} {k : Option (Nat × Nat)} (h : IsNd w v k) : ∃ o n c, v = .slice o n c := by
  rcases h with ⟨rfl, _⟩ | ⟨b, off, c, ss, rfl, _⟩
  · exact ⟨_, _, _, rfl⟩
  · exact ⟨_, _, _, rfl⟩

theorem below_drewN_alloc {w w1 : World} (hb : Below w.heap.size w w1) (x : Obj) (n : Nat) : Below w.heap.size w ((w1.alloc x).drewN n) :=
  below_drewN (hb.alloc hb.size x) n

set_option maxHeartbeats 400000 in
theorem zzbetter_any (va vb : Value) (la lb : Int) (ka kb : Option (Nat × Nat)) (w : World) (hA : IsNd w va ka) (hB : IsNd w vb kb) :
    Calls Try.prog 11 #[va, .int .i64 la, vb, .int .i64 lb] w fun e w' => e = .returned (.tuple #[sel (better ka kb) va vb, .int .i64 (sel (better ka kb) la lb)]) ∧ Below w.heap.size w w' := by
  have hcon := better_any va vb la lb ka kb w hA hB
  obtain ⟨oa, na, ca, rfl⟩ := hA.shape
  obtain ⟨ob, nb, cb, rfl⟩ := hB.shape
  clear hA hB
  generalize better ka kb = bt at hcon ⊢
  cases bt
  · simp only [sel] at hcon ⊢
    go_enter Try.func11, Try.ntmps11
    go_wp2_with (go_at_call 17; refine hcon.mono ?_; rintro e w1 ⟨rfl, hb⟩)
    go_quiet (fail)
    go_wp2
    go_ret2
    exact ⟨rfl, below_drewN_alloc hb _ _⟩
  · simp only [sel] at hcon ⊢
    go_enter Try.func11, Try.ntmps11
    go_wp2_with (go_at_call 17; refine hcon.mono ?_; rintro e w1 ⟨rfl, hb⟩)
    go_quiet (fail)
    go_wp2
    go_ret2
    exact ⟨rfl, below_drewN_alloc hb _ _⟩
end Go.Proofs.Qxb6617298a
