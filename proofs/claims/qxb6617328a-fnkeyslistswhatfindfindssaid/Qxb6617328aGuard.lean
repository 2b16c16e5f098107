import Derived.Test.Qxb6617328aBase
namespace Go.Proofs.Qxb6617328a
open Go.RowKit

set_option maxHeartbeats 1000000 in
theorem bytes_find (path : ByteArray) (o : Option Addr) (c : Nat) (ss : List ByteArray) (key : ByteArray) (w : World) (hp : path.size ≤ maxLen) (hn : ss.length ≤ maxLen) (hz : ∀ s ∈ ss, s.size ≤ maxLen) (r : Row w o ss) (hk : key.size ≤ maxLen) :
    Calls Try.prog 9 #[.string path, .slice o ss.length c, .string key] w fun e w' => Says e (Small ss ∧ path.size ≤ 1048576 ∧ key.size ≤ 1048576) ∧ w' = w := by
  have Z : Hid (∀ s ∈ ss, s.size ≤ maxLen) := hz
  have R : Hid (Row w o ss) := r
  clear hz r
  unfold maxLen at hp hn hk
  by_cases b1 : (1048576 : Int) < (path.size : Int)
  · go_enter Try.func9, Try.ntmps9
    go_wp2
    go_ret
    exact ⟨Says.no, rfl⟩
  by_cases b2 : (1048576 : Int) < (ss.length : Int)
  · go_enter Try.func9, Try.ntmps9
    go_wp2
    go_ret
    exact ⟨Says.no, rfl⟩
  by_cases b3 : (1048576 : Int) < (path.size : Int) + (ss.length : Int)
  · go_enter Try.func9, Try.ntmps9
    go_wp2
    go_ret
    exact ⟨Says.no, rfl⟩
  go_enter Try.func9, Try.ntmps9
  go_wp2
  go_loop [7, 8] (fun t i => ∃ (k : Nat) (z : Int), k ≤ ss.length ∧ i = .int .i64 k ∧ t = .int .i64 z ∧ 0 ≤ z ∧ z ≤ 1048576 ∧ Hid (∀ j, j < k → (at_ ss j).size ≤ 1048576)) (fun _ i => ss.length - (intOf i).toNat)
  case atStart => exact ⟨0, _, by omega, rfl, rfl, by omega, by omega, fun j hj => by omega⟩
  case round =>
    obtain ⟨k, z, hk, rfl, rfl, hz0, hz1, hall⟩ := hrel
    by_cases hlt : k < ss.length
    · obtain ⟨b, off, rfl, hc1⟩ := R.out.at hlt
      have hs1 := size_at Z.out k
      have hall1 : Hid ((at_ ss k).size ≤ 1048576 → ∀ j, j < k + 1 → (at_ ss j).size ≤ 1048576) := fun h j hj => by
        by_cases e : j = k
        · rw [e]; exact h
        · exact hall.out j (by omega)
      generalize at_ ss k = s at hc1 hs1 hall1
      unfold maxLen at hs1
      have hlt' : (k : Int) < (ss.length : Int) := by omega
      by_cases hb1 : (1048576 : Int) < (s.size : Int)
      · go_wp2
        go_ret
        exact ⟨Says.no, rfl⟩
      · by_cases hb2 : (1048576 : Int) < z + (s.size : Int)
        · go_wp2
          go_ret
          exact ⟨Says.no, rfl⟩
        · go_wp2
          go_round
          case rel => exact ⟨k + 1, _, by omega, by go_num, rfl, by omega, by omega, hall1.out (by omega)⟩
          case measure => simp [intOf]; omega
    · have hge : ¬ (k : Int) < (ss.length : Int) := by omega
      have A : Hid (Small ss) := small_of (by omega) (fun j hj => hall.out j (by omega))
      clear hall
      by_cases b4 : (1048576 : Int) < (key.size : Int)
      · go_wp2
        go_ret
        exact ⟨Says.no, rfl⟩
      by_cases b5 : (1048576 : Int) < z + (key.size : Int)
      · go_wp2
        go_ret
        exact ⟨Says.no, rfl⟩
      go_wp2
      go_ret
      exact ⟨Says.yes ⟨A.out, by omega, by omega⟩, rfl⟩

set_option maxHeartbeats 1000000 in
theorem bytes_keys (path : ByteArray) (o : Option Addr) (c : Nat) (ss : List ByteArray) (w : World) (hp : path.size ≤ maxLen) (hn : ss.length ≤ maxLen) (hz : ∀ s ∈ ss, s.size ≤ maxLen) (r : Row w o ss) :
    Calls Try.prog 13 #[.string path, .slice o ss.length c] w fun e w' => Says e (Small ss ∧ path.size ≤ 1048576) ∧ w' = w := by
  have Z : Hid (∀ s ∈ ss, s.size ≤ maxLen) := hz
  have R : Hid (Row w o ss) := r
  clear hz r
  unfold maxLen at hp hn
  by_cases b1 : (1048576 : Int) < (path.size : Int)
  · go_enter Try.func13, Try.ntmps13
    go_wp2
    go_ret
    exact ⟨Says.no, rfl⟩
  by_cases b2 : (1048576 : Int) < (ss.length : Int)
  · go_enter Try.func13, Try.ntmps13
    go_wp2
    go_ret
    exact ⟨Says.no, rfl⟩
  by_cases b3 : (1048576 : Int) < (path.size : Int) + (ss.length : Int)
  · go_enter Try.func13, Try.ntmps13
    go_wp2
    go_ret
    exact ⟨Says.no, rfl⟩
  go_enter Try.func13, Try.ntmps13
  go_wp2
  go_loop [5, 6] (fun t i => ∃ (k : Nat) (z : Int), k ≤ ss.length ∧ i = .int .i64 k ∧ t = .int .i64 z ∧ 0 ≤ z ∧ z ≤ 1048576 ∧ Hid (∀ j, j < k → (at_ ss j).size ≤ 1048576)) (fun _ i => ss.length - (intOf i).toNat)
  case atStart => exact ⟨0, _, by omega, rfl, rfl, by omega, by omega, fun j hj => by omega⟩
  case round =>
    obtain ⟨k, z, hk, rfl, rfl, hz0, hz1, hall⟩ := hrel
    by_cases hlt : k < ss.length
    · obtain ⟨b, off, rfl, hc1⟩ := R.out.at hlt
      have hs1 := size_at Z.out k
      have hall1 : Hid ((at_ ss k).size ≤ 1048576 → ∀ j, j < k + 1 → (at_ ss j).size ≤ 1048576) := fun h j hj => by
        by_cases e : j = k
        · rw [e]; exact h
        · exact hall.out j (by omega)
      generalize at_ ss k = s at hc1 hs1 hall1
      unfold maxLen at hs1
      have hlt' : (k : Int) < (ss.length : Int) := by omega
      by_cases hb1 : (1048576 : Int) < (s.size : Int)
      · go_wp2
        go_ret
        exact ⟨Says.no, rfl⟩
      · by_cases hb2 : (1048576 : Int) < z + (s.size : Int)
        · go_wp2
          go_ret
          exact ⟨Says.no, rfl⟩
        · go_wp2
          go_round
          case rel => exact ⟨k + 1, _, by omega, by go_num, rfl, by omega, by omega, hall1.out (by omega)⟩
          case measure => simp [intOf]; omega
    · have hge : ¬ (k : Int) < (ss.length : Int) := by omega
      have A : Hid (Small ss) := small_of (by omega) (fun j hj => hall.out j (by omega))
      clear hall
      go_wp2
      go_ret
      exact ⟨Says.yes ⟨A.out, by omega⟩, rfl⟩

set_option maxHeartbeats 1000000 in
theorem toobig_any (path : ByteArray) (o : Option Addr) (c : Nat) (ss : List ByteArray) (key : ByteArray) (mx : Int) (w : World) (hp : path.size ≤ 1048576) (hk : key.size ≤ 1048576) (hs : Small ss) (r : Row w o ss) :
    Calls Try.prog 10 #[.string path, .slice o ss.length c, .string key, .int .i64 mx] w fun e w' => Denies e ((ss.length : Int) ≤ mx) ∧ w' = w := by
  have hn := hs.1
  have Z : Hid (∀ s ∈ ss, s.size ≤ 1048576) := hs.2
  have R : Hid (Row w o ss) := r
  clear hs r
  by_cases b1 : mx < (ss.length : Int)
  · go_enter Try.func10, Try.ntmps10
    go_wp2
    go_ret
    exact ⟨Denies.yes, rfl⟩
  have b1' : (ss.length : Int) ≤ mx := by omega
  have p1 : ¬ (1048576 : Int) < (path.size : Int) := by omega
  have p2 : ¬ (1048576 : Int) < (key.size : Int) := by omega
  by_cases b2 : (1048576 : Int) < (path.size : Int) + (key.size : Int)
  · go_enter Try.func10, Try.ntmps10
    go_wp2
    go_ret
    exact ⟨Denies.yes, rfl⟩
  go_enter Try.func10, Try.ntmps10
  go_wp2
  go_loop [9, 10] (fun t i => ∃ (k : Nat) (z : Int), k ≤ ss.length ∧ i = .int .i64 k ∧ t = .int .i64 z ∧ 0 ≤ z ∧ z ≤ 1048576) (fun _ i => ss.length - (intOf i).toNat)
  case atStart => exact ⟨0, _, by omega, rfl, rfl, by omega, by omega⟩
  case round =>
    obtain ⟨k, z, hk, rfl, rfl, hz0, hz1⟩ := hrel
    by_cases hlt : k < ss.length
    · obtain ⟨b, off, rfl, hc1⟩ := R.out.at hlt
      have hs1 := size_at Z.out k
      generalize at_ ss k = s at hc1 hs1
      have hlt' : (k : Int) < (ss.length : Int) := by omega
      have hb1 : ¬ (1048576 : Int) < (s.size : Int) := by omega
      by_cases hb2 : (1048576 : Int) < z + (16 + (s.size : Int))
      · go_wp2
        go_ret
        exact ⟨Denies.yes, rfl⟩
      · go_wp2
        go_round
        case rel => exact ⟨k + 1, _, by omega, by go_num, rfl, by omega, by omega⟩
        case measure => simp [intOf]; omega
    · have hge : ¬ (k : Int) < (ss.length : Int) := by omega
      go_wp2
      go_ret
      exact ⟨Denies.no (by first | exact b1' | trivial), rfl⟩

set_option maxHeartbeats 1000000 in
theorem unsorted_any (o : Option Addr) (c : Nat) (ss : List ByteArray) (w : World) (hn : ss.length ≤ 1048576) (r : Row w o ss) :
    Calls Try.prog 11 #[.slice o ss.length c] w fun e w' => Denies e (8 < ss.length → Inc ss) ∧ Qt w w' := by
  have R : Hid (Row w o ss) := r
  clear r
  by_cases h8 : (ss.length : Int) ≤ 8
  · go_enter Try.func11, Try.ntmps11
    go_wp2
    go_ret
    exact ⟨Denies.no (fun h => by omega), Qt.refl _⟩
  go_enter Try.func11, Try.ntmps11
  go_wp2
  go_loopw [3] (fun i wr => ∃ k : Nat, k < ss.length ∧ i = .int .i64 ((k : Int) + 1) ∧ Qt w wr ∧ Hid (∀ j, j < k → Lt (at_ ss j) (at_ ss (j + 1)))) (fun i _ => ss.length + 1 - (intOf i).toNat)
  case atStart => exact ⟨0, by omega, rfl, Qt.refl _, fun j h => by omega⟩
  case round =>
    obtain ⟨i, hi, rfl, hq, hall⟩ := hrel
    by_cases hig : i + 1 < ss.length
    · have hig' : (i : Int) + 1 < (ss.length : Int) := by omega
      have hig2 : (i : Int) < (ss.length : Int) := by omega
      obtain ⟨b1, f1, rfl, hc1⟩ := (Qt.row R.out hq).at (i := i) (by omega)
      obtain ⟨b2, f2, e2, hc2⟩ := (Qt.row R.out hq).at hig
      cases e2
      have HN : Hid (Lt (at_ ss i) (at_ ss (i + 1)) → ∀ j, j < i + 1 → Lt (at_ ss j) (at_ ss (j + 1))) := fun h j hj => by
        by_cases e : j = i
        · rw [e]; exact h
        · exact hall.out j (by omega)
      clear hall
      generalize at_ ss i = p at *
      generalize at_ ss (i + 1) = q at *
      by_cases hk : Lt p q
      · have ht : Op.bytesLess p.toList q.toList = true := (less_iff p q).2 hk
        have HN2 : Hid (∀ j, j < i + 1 → Lt (at_ ss j) (at_ ss (j + 1))) := HN.out hk
        clear HN hk
        go_wp2
        go_quiet (fail)
        go_wp2
        go_roundw
        case rel => exact ⟨i + 1, by omega, by go_num, hq.drewN _, HN2.out⟩
        case measure => simp [intOf]; omega
      · have ht : Op.bytesLess p.toList q.toList = false := (less_false p q).2 hk
        clear HN hk
        go_wp2
        go_quiet (fail)
        go_wp2
        go_ret
        exact ⟨Denies.yes, hq.drewN _⟩
    · have hig' : ¬ (i : Int) + 1 < (ss.length : Int) := by omega
      have HF : Hid (Inc ss) := inc_of (fun j hj => hall.out j (by omega))
      clear hall
      go_wp2
      go_ret
      exact ⟨Denies.no (fun _ => HF.out), hq⟩
end Go.Proofs.Qxb6617328a
