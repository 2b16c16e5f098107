import Derived.Test.Qxb6617298aCr3
namespace Go.Proofs.Qxb6617298a
open Go.RowKit

/-- The greatest length among the first k strings. -/
def maxl (ss : List ByteArray) : Nat → Nat
  | 0 => 0
  | k + 1 => max (maxl ss k) (at_ ss k).size

theorem maxl_le {ss : List ByteArray} (h : ∀ s ∈ ss, s.size ≤ 1048576) (k : Nat) : maxl ss k ≤ 1048576 := by
  induction k with
  | zero => exact Nat.zero_le _
  | succ k ih => exact Nat.max_le.2 ⟨ih, size_getD h k⟩

theorem le_maxl (ss : List ByteArray) (k i : Nat) (h : i < k) : (at_ ss i).size ≤ maxl ss k := by
  induction k with
  | zero => omega
  | succ k ih =>
    simp only [maxl]
    by_cases e : i = k
    · subst e; exact Nat.le_max_right _ _
    · exact Nat.le_trans (ih (by omega)) (Nat.le_max_left _ _)

theorem maxl_at (ss : List ByteArray) (k : Nat) (h : 0 < k) : ∃ i, i < k ∧ (at_ ss i).size = maxl ss k := by
  induction k with
  | zero => omega
  | succ k ih =>
    simp only [maxl]
    by_cases e : k = 0
    · subst e; exact ⟨0, by omega, by simp [maxl]⟩
    · obtain ⟨i, hi, hm⟩ := ih (by omega)
      by_cases hc : maxl ss k ≤ (at_ ss k).size
      · exact ⟨k, by omega, by rw [Nat.max_eq_right hc]⟩
      · exact ⟨i, by omega, by rw [hm, Nat.max_eq_left (by omega)]⟩

set_option maxHeartbeats 400000 in
theorem longest_any (o : Option Addr) (c : Nat) (ss : List ByteArray) (w : World) (r : Row w o ss) :
    Calls Try.prog 8 #[.slice o ss.length c] w fun e w' => e = .returned (.int .i64 (maxl ss ss.length)) ∧ w' = w := by
  have hn := r.1
  have HZ : Hid (∀ s ∈ ss, s.size ≤ 1048576) := r.2.1
  have R : Hid (Row w o ss) := r
  clear r
  go_enter Try.func8, Try.ntmps8
  go_wp2
  go_loop [3, 4] (fun m i => ∃ k : Nat, k ≤ ss.length ∧ i = .int .i64 k ∧ m = .int .i64 (maxl ss k)) (fun _ i => ss.length - (intOf i).toNat)
  case atStart => exact ⟨0, by omega, rfl, rfl⟩
  case round =>
    obtain ⟨k, hk, rfl, rfl⟩ := hrel
    have hm0 := maxl_le HZ.out k
    have hmm : Hid (maxl ss (k + 1) = max (maxl ss k) (at_ ss k).size) := rfl
    have hl : Hid (k = ss.length → maxl ss ss.length = maxl ss k) := fun h => by rw [← h]
    generalize maxl ss k = m at hm0 hmm hl ⊢
    by_cases hlt : k < ss.length
    · have hlt' : (k : Int) < (ss.length : Int) := by omega
      obtain ⟨b, off, rfl, hc, hz⟩ := R.out.at hlt
      generalize at_ ss k = s at *
      by_cases hle : (m : Int) < (s.size : Int)
      · go_wp2
        go_round
        case rel => exact ⟨k + 1, by omega, by go_num, by rw [hmm.out, Nat.max_eq_right (by omega)]⟩
        case measure => simp [intOf]; omega
      · go_wp2
        go_round
        case rel => exact ⟨k + 1, by omega, by go_num, by rw [hmm.out, Nat.max_eq_left (by omega)]⟩
        case measure => simp [intOf]; omega
    · have hge : ¬ (k : Int) < (ss.length : Int) := by omega
      go_wp2
      go_ret
      exact ⟨ret_int (by rw [hl.out (by omega)]), rfl⟩
end Go.Proofs.Qxb6617298a
