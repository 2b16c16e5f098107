import Derived.Test.Qxb6617298aBn1
namespace Go.Proofs.Qxb6617298a
open Go.RowKit

set_option maxHeartbeats 400000 in
theorem cmp_any (x y : ByteArray) (w : World) (hx : x.size ≤ 140737488355328) (hy : y.size ≤ 140737488355328) :
    Calls Try.prog 23 #[.string x, .string y] w fun e w' => e = .returned (.int .i64 ((x.size : Int) - (y.size : Int))) ∧ w' = w := by
  go_enter Try.func23, Try.ntmps23
  go_wp2
  go_ret
  exact ⟨rfl, rfl⟩

set_option maxHeartbeats 400000 in
theorem minfunc_any (b off c : Nat) (ss : List ByteArray) (w : World) (h0 : 0 < ss.length) (hn : ss.length ≤ 140737488355328) (hsz : ∀ s ∈ ss, s.size ≤ 140737488355328) (hc : Cells w b off ss) :
    Calls Try.prog 22 #[.slice (some ⟨b, off, none⟩) ss.length c, .func (.func 23) #[] #[]] w fun e w' => (∃ s : ByteArray, e = .returned (.string s) ∧ s.size = mlen ss (ss.length - 1)) ∧ w' = w := by
  have hc0 := hc 0 h0
  have hC : Hid (Cells w b off ss) := hc
  have hM : Hid (mlen ss 0 = (ss.getD 0 ByteArray.empty).size) := rfl
  have hs0 := size_getD hsz 0
  have hS : Hid (∀ s ∈ ss, s.size ≤ 140737488355328) := hsz
  clear hc hsz
  generalize ss.getD 0 ByteArray.empty = s0 at hc0 hM hs0
  have hi0 : (0 : Int) < (ss.length : Int) := by omega
  have hi1 : ¬ (ss.length : Int) < 1 := by omega
  simp only [Nat.add_zero] at hc0
  go_enter Try.func22, Try.ntmps22
  go_wp2
  go_loop [5, 6] (fun m i => ∃ (k : Nat) (s : ByteArray), k + 1 ≤ ss.length ∧ i = .int .i64 ((k : Int) + 1) ∧ m = .string s ∧ Hid (s.size = mlen ss k)) (fun _ i => ss.length - (intOf i).toNat)
  case atStart => exact ⟨0, s0, by omega, rfl, rfl, hM.out.symm⟩
  case round =>
    clear hc0 hs0 hM
    obtain ⟨k, m, hk, rfl, rfl, hm⟩ := hrel
    have hm0 : m.size ≤ 140737488355328 := by rw [hm.out]; exact mlen_le hS.out k
    have hmm : Hid (mlen ss (k + 1) = min m.size (ss.getD (k + 1) ByteArray.empty).size) := by show _ = _; rw [hm.out]; rfl
    have hl : Hid (k + 1 = ss.length → m.size = mlen ss (ss.length - 1)) := fun h => by rw [← h]; exact hm.out
    clear hm
    by_cases hlt : k + 1 < ss.length
    · have hc1 := hC.out (k + 1) hlt
      have hs1 := size_getD hS.out (k + 1)
      have hlt' : (k : Int) + 1 < (ss.length : Int) := by omega
      generalize ss.getD (k + 1) ByteArray.empty = s at hc1 hs1 hmm
      by_cases hle : (s.size : Int) - (m.size : Int) < 0
      · go_wp2_with (go_at_call 23; refine (cmp_any _ _ _ (by assumption) (by assumption)).mono ?_; rintro e w' ⟨rfl, rfl⟩)
        go_round
        case rel => exact ⟨k + 1, s, by omega, by go_num, rfl, by show _ = _; rw [hmm.out, Nat.min_eq_right (by omega)]⟩
        case measure => simp [intOf]; omega
      · go_wp2_with (go_at_call 23; refine (cmp_any _ _ _ (by assumption) (by assumption)).mono ?_; rintro e w' ⟨rfl, rfl⟩)
        go_round
        case rel => exact ⟨k + 1, m, by omega, by go_num, rfl, by show _ = _; rw [hmm.out, Nat.min_eq_left (by omega)]⟩
        case measure => simp [intOf]; omega
    · have hge : ¬ (k : Int) + 1 < (ss.length : Int) := by omega
      go_wp2
      go_ret
      exact ⟨⟨m, rfl, hl.out (by omega)⟩, rfl⟩

set_option maxHeartbeats 400000 in
theorem short_clo (b off c : Nat) (ss : List ByteArray) (w : World) (h0 : 0 < ss.length) (hn : ss.length ≤ 140737488355328) (hsz : ∀ s ∈ ss, s.size ≤ 140737488355328) (hc : Cells w b off ss) :
    Calls Try.prog 21 #[.slice (some ⟨b, off, none⟩) ss.length c] w fun e w' => e = .returned (.int .i64 (mlen ss (ss.length - 1))) ∧ w' = w := by
  have hcon := minfunc_any b off c ss w h0 hn hsz hc
  clear hsz hc
  go_enter Try.func21, Try.ntmps21
  go_wp2_with fail
  refine hcon.mono ?_
  rintro e w' ⟨⟨s, rfl, hs⟩, rfl⟩
  go_wp2
  go_ret

  exact ⟨ret_int (by omega), rfl⟩
end Go.Proofs.Qxb6617298a
