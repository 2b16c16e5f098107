import Derived.Test.Qxb6617328aNum3
namespace Go.Proofs.Qxb6617328a
open Go.RowKit

theorem numEnd_pos {r : List Nat} {n : Nat} (h : numEnd r = some n) : 0 < n := by
  rw [← res0] at h
  cases r with
  | nil => cases h
  | cons c r =>
    cases ht : tr 0 c with
    | none => rw [res_dead ht] at h; cases h
    | some t =>
      rw [res_step ht] at h
      cases hr : res (mrun t r) with
      | none => rw [hr] at h; cases h
      | some m => rw [hr] at h; cases h; exact Nat.succ_pos _

theorem sfx_extract (s : ByteArray) (k i : Nat) : sfx (s.extract 0 k) i = (sfx s i).take (k - i) := by
  unfold sfx
  rw [Lib.extract_data]
  simp only [List.drop_zero, Nat.sub_zero, List.map_take, List.drop_take]

set_option maxHeartbeats 400000 in
theorem zznumber_of (s : ByteArray) (i a : Int) (b : Bool) (w : World) (h : Calls Try.prog 17 #[.string s, .int .i64 i] w fun e w' => e = .returned (.tuple #[.int .i64 a, .bool b]) ∧ w' = w) :
    Calls Try.prog 8 #[.string s, .int .i64 i] w fun e w' => e = .returned (.tuple #[.int .i64 a, .bool b]) ∧ w' = w := by
  go_enter Try.func8, Try.ntmps8
  go_wp2_with fail
  refine h.mono ?_
  clear h
  rintro e w ⟨rfl, rfl⟩
  go_wp2
  go_ret2
  exact ⟨rfl, rfl⟩

set_option maxHeartbeats 400000 in
theorem bytes_num (s : ByteArray) (i k : Int) (w : World) (hs : s.size ≤ maxLen) :
    Calls Try.prog 6 #[.string s, .int .i64 i, .int .i64 k] w fun e w' => Says e (s.size ≤ 1048576) ∧ w' = w := by
  unfold maxLen at hs
  by_cases h : (1048576 : Int) < (s.size : Int)
  · go_enter Try.func6, Try.ntmps6
    go_wp2
    go_ret
    exact ⟨Says.no, rfl⟩
  · have h2 : s.size ≤ 1048576 := by omega
    have H2 : Hid (s.size ≤ 1048576) := h2
    clear h2
    go_enter Try.func6, Try.ntmps6
    go_wp2
    go_ret
    exact ⟨Says.yes (by first | exact H2.out | trivial), rfl⟩

set_option maxHeartbeats 2000000 in
set_option maxRecDepth 100000 in
theorem walk_num (s : ByteArray) (i k : Int) (w : World) (hs : s.size ≤ maxLen) :
    Calls Try.prog 3 #[.string s, .int .i64 i, .int .i64 k] w fun e w' => e = .returned (.bool true) ∧ w' = w := by
  have hby := bytes_num s i k w hs
  clear hs
  go_enter Try.func3, Try.ntmps3
  go_wp2_with fail
  refine hby.mono ?_
  clear hby
  rintro e w ⟨⟨r, rfl, hsm⟩, rfl⟩
  cases r
  · go_wp2
    go_ret
    exact ⟨rfl, rfl⟩
  have hs := hsm rfl
  clear hsm
  have hs' : ¬ (1048576 : Int) < (s.size : Int) := by omega
  by_cases hneg : i < 0
  · go_wp2
    go_ret
    exact ⟨rfl, rfl⟩
  by_cases hout : (s.size : Int) ≤ i
  · have hm := model_out s i w hout
    have hn := zznumber_of s i 0 false w (number_out s i w hout)
    go_wp2_with fail
    refine hm.mono ?_
    clear hm
    rintro e w ⟨rfl, rfl⟩
    go_wp2_with fail
    refine hn.mono ?_
    clear hn
    rintro e w ⟨rfl, rfl⟩
    go_wp2
    go_ret
    exact ⟨rfl, rfl⟩
  obtain ⟨j, rfl⟩ : ∃ j : Nat, i = j := ⟨i.toNat, by omega⟩
  have hj : j < s.size := by omega
  have hm := model_any s j w hs hj
  have hn0 := number_any s j w hs hj
  cases hN : numEnd (sfx s j) with
  | none =>
    rw [ans_none hN] at hm hn0
    have hn := zznumber_of s j 0 false w hn0
    clear hn0 hN
    go_wp2_with fail
    refine hm.mono ?_
    clear hm
    rintro e w ⟨rfl, rfl⟩
    go_wp2_with fail
    refine hn.mono ?_
    clear hn
    rintro e w ⟨rfl, rfl⟩
    go_wp2
    go_ret
    exact ⟨rfl, rfl⟩
  | some n =>
    rw [ans_some hN] at hm hn0
    have hn := zznumber_of s j ((j : Int) + (n : Int)) true w hn0
    have hnp := numEnd_pos hN
    have hnl := numEnd_le hN
    rw [sfx_length] at hnl
    have HN : Hid (numEnd (sfx s j) = some n) := hN
    clear hn0 hN
    by_cases hk : (j : Int) + (n : Int) ≤ k ∧ k ≤ (s.size : Int)
    · obtain ⟨hk1, hk2⟩ := hk
      obtain ⟨m, rfl⟩ : ∃ m : Nat, k = m := ⟨k.toNat, by omega⟩
      have hext : (s.extract 0 m).size = m := by
        rw [ByteArray.size_extract]
        omega
      have hc0 := number_any (s.extract 0 m) j w (by omega) (by omega)
      rw [ans_some (show numEnd (sfx (s.extract 0 m) j) = some n by rw [sfx_extract]; exact numEnd_take HN.out (by omega))] at hc0
      have hc := zznumber_of (s.extract 0 m) j ((j : Int) + (n : Int)) true w hc0
      have hm2 : m ≤ s.size := by omega
      have HC : Hid (Calls Try.prog 8 #[.string (s.extract 0 m), .int .i64 j] w fun e w' => e = .returned (.tuple #[.int .i64 ((j : Int) + (n : Int)), .bool true]) ∧ w' = w) := hc
      clear hc0 hc hext
      go_wp2_with fail
      refine hm.mono ?_
      clear hm
      rintro e w ⟨rfl, rfl⟩
      go_wp2_with fail
      refine hn.mono ?_
      clear hn
      rintro e w ⟨rfl, rfl⟩
      go_wp2_with fail
      refine HC.out.mono ?_
      clear HC
      rintro e w ⟨rfl, rfl⟩
      go_wp2
      go_ret
      exact ⟨rfl, rfl⟩
    · have hk' : ¬ (j : Int) + (n : Int) ≤ k ∨ ((j : Int) + (n : Int) ≤ k ∧ ¬ k ≤ (s.size : Int)) := by omega
      clear hk
      go_wp2_with fail
      refine hm.mono ?_
      clear hm
      rintro e w ⟨rfl, rfl⟩
      go_wp2_with fail
      refine hn.mono ?_
      clear hn
      rintro e w ⟨rfl, rfl⟩
      rcases hk' with hk1 | ⟨hk1, hk2⟩
      · go_wp2
        go_ret
        exact ⟨rfl, rfl⟩
      · go_wp2
        go_ret
        exact ⟨rfl, rfl⟩
end Go.Proofs.Qxb6617328a
