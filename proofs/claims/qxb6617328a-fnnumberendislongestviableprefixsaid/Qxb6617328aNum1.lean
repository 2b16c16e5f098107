import Derived.Test.Qxb6617328aNumP
import Derived.Test.Qxb6617328aBase
namespace Go.Proofs.Qxb6617328a
open Go.RowKit

def code (o : Option Nat) : Int := match o with | none => -1 | some t => t

set_option maxHeartbeats 1000000 in
theorem step_45 (s : Nat) (w : World) (hs : s ≤ 8) : Calls Try.prog 15 #[.int .i64 s, .int .u8 45] w fun e w' => e = .returned (.int .i64 (code (tr s 45))) ∧ w' = w := by
  obtain rfl | rfl | rfl | rfl | rfl | rfl | rfl | rfl | rfl : s = 0 ∨ s = 1 ∨ s = 2 ∨ s = 3 ∨ s = 4 ∨ s = 5 ∨ s = 6 ∨ s = 7 ∨ s = 8 := by omega
  all_goals
    go_enter Try.func15, Try.ntmps15
    go_wp2
    go_ret
    exact ⟨ret_int rfl, rfl⟩

set_option maxHeartbeats 1000000 in
theorem step_48 (s : Nat) (w : World) (hs : s ≤ 8) : Calls Try.prog 15 #[.int .i64 s, .int .u8 48] w fun e w' => e = .returned (.int .i64 (code (tr s 48))) ∧ w' = w := by
  obtain rfl | rfl | rfl | rfl | rfl | rfl | rfl | rfl | rfl : s = 0 ∨ s = 1 ∨ s = 2 ∨ s = 3 ∨ s = 4 ∨ s = 5 ∨ s = 6 ∨ s = 7 ∨ s = 8 := by omega
  all_goals
    go_enter Try.func15, Try.ntmps15
    go_wp2
    go_ret
    exact ⟨ret_int rfl, rfl⟩

set_option maxHeartbeats 1000000 in
theorem step_46 (s : Nat) (w : World) (hs : s ≤ 8) : Calls Try.prog 15 #[.int .i64 s, .int .u8 46] w fun e w' => e = .returned (.int .i64 (code (tr s 46))) ∧ w' = w := by
  obtain rfl | rfl | rfl | rfl | rfl | rfl | rfl | rfl | rfl : s = 0 ∨ s = 1 ∨ s = 2 ∨ s = 3 ∨ s = 4 ∨ s = 5 ∨ s = 6 ∨ s = 7 ∨ s = 8 := by omega
  all_goals
    go_enter Try.func15, Try.ntmps15
    go_wp2
    go_ret
    exact ⟨ret_int rfl, rfl⟩

set_option maxHeartbeats 1000000 in
theorem step_101 (s : Nat) (w : World) (hs : s ≤ 8) : Calls Try.prog 15 #[.int .i64 s, .int .u8 101] w fun e w' => e = .returned (.int .i64 (code (tr s 101))) ∧ w' = w := by
  obtain rfl | rfl | rfl | rfl | rfl | rfl | rfl | rfl | rfl : s = 0 ∨ s = 1 ∨ s = 2 ∨ s = 3 ∨ s = 4 ∨ s = 5 ∨ s = 6 ∨ s = 7 ∨ s = 8 := by omega
  all_goals
    go_enter Try.func15, Try.ntmps15
    go_wp2
    go_ret
    exact ⟨ret_int rfl, rfl⟩

set_option maxHeartbeats 1000000 in
theorem step_69 (s : Nat) (w : World) (hs : s ≤ 8) : Calls Try.prog 15 #[.int .i64 s, .int .u8 69] w fun e w' => e = .returned (.int .i64 (code (tr s 69))) ∧ w' = w := by
  obtain rfl | rfl | rfl | rfl | rfl | rfl | rfl | rfl | rfl : s = 0 ∨ s = 1 ∨ s = 2 ∨ s = 3 ∨ s = 4 ∨ s = 5 ∨ s = 6 ∨ s = 7 ∨ s = 8 := by omega
  all_goals
    go_enter Try.func15, Try.ntmps15
    go_wp2
    go_ret
    exact ⟨ret_int rfl, rfl⟩

set_option maxHeartbeats 1000000 in
theorem step_43 (s : Nat) (w : World) (hs : s ≤ 8) : Calls Try.prog 15 #[.int .i64 s, .int .u8 43] w fun e w' => e = .returned (.int .i64 (code (tr s 43))) ∧ w' = w := by
  obtain rfl | rfl | rfl | rfl | rfl | rfl | rfl | rfl | rfl : s = 0 ∨ s = 1 ∨ s = 2 ∨ s = 3 ∨ s = 4 ∨ s = 5 ∨ s = 6 ∨ s = 7 ∨ s = 8 := by omega
  all_goals
    go_enter Try.func15, Try.ntmps15
    go_wp2
    go_ret
    exact ⟨ret_int rfl, rfl⟩

set_option maxHeartbeats 1000000 in
theorem step_dig (s c : Nat) (w : World) (hs : s ≤ 8) (h1 : 49 ≤ c) (h2 : c ≤ 57) : Calls Try.prog 15 #[.int .i64 s, .int .u8 c] w fun e w' => e = .returned (.int .i64 (code (tr s c))) ∧ w' = w := by
  have i1 : (48 : Int) ≤ (c : Int) := by omega
  have i2 : (c : Int) ≤ 57 := by omega
  have n1 : ((c : Int) == 45) = false := beq_eq_false_iff_ne.2 (by omega)
  have n2 : ((c : Int) == 48) = false := beq_eq_false_iff_ne.2 (by omega)
  have n3 : ((c : Int) == 46) = false := beq_eq_false_iff_ne.2 (by omega)
  have n4 : ((c : Int) == 101) = false := beq_eq_false_iff_ne.2 (by omega)
  have n5 : ((c : Int) == 69) = false := beq_eq_false_iff_ne.2 (by omega)
  have n6 : ((c : Int) == 43) = false := beq_eq_false_iff_ne.2 (by omega)
  have P1 : Hid (48 ≤ c ∧ c ≤ 57) := ⟨by omega, h2⟩
  have P2 : Hid (¬ c = 45) := by show ¬ _; omega
  have P3 : Hid (¬ c = 48) := by show ¬ _; omega
  have P4 : Hid (¬ (c = 43 ∨ c = 45)) := by show ¬ _; omega
  clear h1 h2
  obtain rfl | rfl | rfl | rfl | rfl | rfl | rfl | rfl | rfl : s = 0 ∨ s = 1 ∨ s = 2 ∨ s = 3 ∨ s = 4 ∨ s = 5 ∨ s = 6 ∨ s = 7 ∨ s = 8 := by omega
  · go_enter Try.func15, Try.ntmps15
    go_wp2
    go_ret
    exact ⟨ret_int (by simp only [tr]; rw [if_neg P2.out, if_neg P3.out, if_pos P1.out]; rfl), rfl⟩
  · go_enter Try.func15, Try.ntmps15
    go_wp2
    go_ret
    exact ⟨ret_int (by simp only [tr]; rw [if_neg P3.out, if_pos P1.out]; rfl), rfl⟩
  · go_enter Try.func15, Try.ntmps15
    go_wp2
    go_ret
    exact ⟨ret_int (by simp only [tr]; rw [if_neg (by have := P1.out; omega), if_neg (by have := P1.out; omega)]; rfl), rfl⟩
  · go_enter Try.func15, Try.ntmps15
    go_wp2
    go_ret
    exact ⟨ret_int (by simp only [tr]; rw [if_pos P1.out]; rfl), rfl⟩
  · go_enter Try.func15, Try.ntmps15
    go_wp2
    go_ret
    exact ⟨ret_int (by simp only [tr]; rw [if_pos P1.out]; rfl), rfl⟩
  · go_enter Try.func15, Try.ntmps15
    go_wp2
    go_ret
    exact ⟨ret_int (by simp only [tr]; rw [if_pos P1.out]; rfl), rfl⟩
  · go_enter Try.func15, Try.ntmps15
    go_wp2
    go_ret
    exact ⟨ret_int (by simp only [tr]; rw [if_neg P4.out, if_pos P1.out]; rfl), rfl⟩
  · go_enter Try.func15, Try.ntmps15
    go_wp2
    go_ret
    exact ⟨ret_int (by simp only [tr]; rw [if_pos P1.out]; rfl), rfl⟩
  · go_enter Try.func15, Try.ntmps15
    go_wp2
    go_ret
    exact ⟨ret_int (by simp only [tr]; rw [if_pos P1.out]; rfl), rfl⟩

set_option maxHeartbeats 1000000 in
theorem step_other (s c : Nat) (w : World) (hs : s ≤ 8) (hc : c ≤ 255) (h1 : ¬ (48 ≤ c ∧ c ≤ 57)) (m1 : c ≠ 45) (m3 : c ≠ 46) (m4 : c ≠ 101) (m5 : c ≠ 69) (m6 : c ≠ 43) :
    Calls Try.prog 15 #[.int .i64 s, .int .u8 c] w fun e w' => e = .returned (.int .i64 (code (tr s c))) ∧ w' = w := by
  have n1 : ((c : Int) == 45) = false := beq_eq_false_iff_ne.2 (by omega)
  have n2 : ((c : Int) == 48) = false := beq_eq_false_iff_ne.2 (by omega)
  have n3 : ((c : Int) == 46) = false := beq_eq_false_iff_ne.2 (by omega)
  have n4 : ((c : Int) == 101) = false := beq_eq_false_iff_ne.2 (by omega)
  have n5 : ((c : Int) == 69) = false := beq_eq_false_iff_ne.2 (by omega)
  have n6 : ((c : Int) == 43) = false := beq_eq_false_iff_ne.2 (by omega)
  have K : Hid (tr s c = none) := by
    show _ = _
    obtain rfl | rfl | rfl | rfl | rfl | rfl | rfl | rfl | rfl : s = 0 ∨ s = 1 ∨ s = 2 ∨ s = 3 ∨ s = 4 ∨ s = 5 ∨ s = 6 ∨ s = 7 ∨ s = 8 := by omega
    all_goals (simp only [tr]; repeat rw [if_neg (by omega)])
  have hd : (¬ (48 : Int) ≤ (c : Int)) ∨ ((48 : Int) ≤ (c : Int) ∧ ¬ (c : Int) ≤ 57) := by omega
  clear h1 m1 m3 m4 m5 m6
  rcases hd with hd | ⟨hd1, hd2⟩
  all_goals
    obtain rfl | rfl | rfl | rfl | rfl | rfl | rfl | rfl | rfl : s = 0 ∨ s = 1 ∨ s = 2 ∨ s = 3 ∨ s = 4 ∨ s = 5 ∨ s = 6 ∨ s = 7 ∨ s = 8 := by omega
    all_goals
      go_enter Try.func15, Try.ntmps15
      go_wp2
      go_ret
      exact ⟨ret_int (by rw [K.out]; rfl), rfl⟩

theorem step_any (s c : Nat) (w : World) (hs : s ≤ 8) (hc : c ≤ 255) : Calls Try.prog 15 #[.int .i64 s, .int .u8 c] w fun e w' => e = .returned (.int .i64 (code (tr s c))) ∧ w' = w := by
  by_cases e45 : c = 45
  · subst e45; exact step_45 s w hs
  by_cases e48 : c = 48
  · subst e48; exact step_48 s w hs
  by_cases e46 : c = 46
  · subst e46; exact step_46 s w hs
  by_cases e101 : c = 101
  · subst e101; exact step_101 s w hs
  by_cases e69 : c = 69
  · subst e69; exact step_69 s w hs
  by_cases e43 : c = 43
  · subst e43; exact step_43 s w hs
  by_cases hd : 48 ≤ c ∧ c ≤ 57
  · exact step_dig s c w hs (by omega) hd.2
  · exact step_other s c w hs hc hd e45 e46 e101 e69 e43

theorem tr_le {s c t : Nat} (h : tr s c = some t) : t ≤ 8 := by
  unfold tr at h
  split at h
  all_goals (repeat' split at h) <;> first | (cases h; omega) | cases h

set_option maxHeartbeats 1000000 in
theorem acc_any (s : Nat) (w : World) (hs : s ≤ 8) : Calls Try.prog 16 #[.int .i64 s] w fun e w' => e = .returned (.bool (acc s)) ∧ w' = w := by
  obtain rfl | rfl | rfl | rfl | rfl | rfl | rfl | rfl | rfl : s = 0 ∨ s = 1 ∨ s = 2 ∨ s = 3 ∨ s = 4 ∨ s = 5 ∨ s = 6 ∨ s = 7 ∨ s = 8 := by omega
  all_goals
    go_enter Try.func16, Try.ntmps16
    go_wp2
    go_ret
    exact ⟨ret_bool rfl, rfl⟩
end Go.Proofs.Qxb6617328a
