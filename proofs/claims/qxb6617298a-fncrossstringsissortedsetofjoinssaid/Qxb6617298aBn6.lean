import Derived.Test.Qxb6617298aBn5
namespace Go.Proofs.Qxb6617298a
open Go.RowKit

set_option maxHeartbeats 400000 in
theorem same_nil (w : World) : Calls Try.prog 13 #[.slice none 0 0, .slice none 0 0] w fun e w' => e = .returned (.bool true) ∧ ∃ n, w' = w.drewN n := by
  have hnil := eqlnil
  go_enter Try.func13, Try.ntmps13
  go_wp2
  go_loop [5] (fun i => i = .int .i64 0) (fun i => 3 - (intOf i).toNat)
  case atStart => rfl
  case round =>
    subst hrel
    go_wp2
    go_ret
    exact ⟨rfl, 0, rfl⟩

set_option maxHeartbeats 400000 in
theorem same_row (b off c : Nat) (ss : List ByteArray) (w : World) (hn : ss.length ≤ 140737488355328) (hc : Cells w b off ss) :
    Calls Try.prog 13 #[.slice (some ⟨b, off, none⟩) ss.length c, .slice (some ⟨b, off, none⟩) ss.length c] w fun e w' => e = .returned (.bool true) ∧ ∃ n, w' = w.drewN n := by
  have hnil := eqlnil
  have hC : Hid (Cells w b off ss) := hc
  clear hc
  go_enter Try.func13, Try.ntmps13
  go_wp2
  go_loopw [5] (fun i wr => ∃ k n : Nat, k ≤ ss.length ∧ i = .int .i64 k ∧ wr = w.drewN n) (fun i _ => ss.length - (intOf i).toNat)
  case atStart => exact ⟨0, 0, by omega, rfl, rfl⟩
  case round =>
    obtain ⟨k, nd, hk, rfl, rfl⟩ := hrel
    by_cases hlt : k < ss.length
    · have hc1 := hC.out k hlt
      have hlt' : (k : Int) < (ss.length : Int) := by omega
      generalize ss.getD k ByteArray.empty = s at hc1
      go_wp2
      go_quiet (fail)
      go_wp2
      go_roundw
      case rel => exact ⟨k + 1, _, by omega, by go_num, rfl⟩
      case measure => simp [intOf]; omega
    · have hge : ¬ (k : Int) < (ss.length : Int) := by omega
      go_wp2
      go_ret
      exact ⟨rfl, _, rfl⟩

theorem same_self (v : Value) (k : Option (Nat × Nat)) (w : World) (h : IsNd w v k) : Calls Try.prog 13 #[v, v] w fun e w' => e = .returned (.bool true) ∧ ∃ n, w' = w.drewN n := by
  rcases h with ⟨rfl, _⟩ | ⟨b, off, c, ss, rfl, _, h3, _, _, _, h7⟩
  · exact same_nil w
  · exact same_row b off c ss w h3 h7
end Go.Proofs.Qxb6617298a
