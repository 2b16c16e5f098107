import Derived.Test.Qxb6618136aSkip
namespace Go.Proofs.Qxb6618136a
open Go.RowKit

set_option maxHeartbeats 2000000 in
set_option maxRecDepth 100000 in
theorem walk_skip (s : ByteArray) (pos depth : Int) (w : World) (hs : s.size ≤ maxLen) :
    Calls Try.prog 3 #[.string s, .int .i64 pos, .int .i64 depth] w fun e w' => e = .returned (.bool true) ∧ Below w.heap.size w w' := by
  have hby := bytes_skip s pos depth w hs
  clear hs
  go_enter Try.func3, Try.ntmps3
  go_wp2_with fail
  refine hby.mono ?_
  clear hby
  rintro e w ⟨⟨r, rfl, hsm⟩, rfl⟩
  cases r
  · go_wp2
    go_ret
    exact ⟨rfl, Below.refl _ _⟩
  have hs := hsm rfl
  clear hsm
  by_cases hbig : (65536 : Int) < (s.size : Int)
  · go_wp2
    go_ret
    exact ⟨rfl, Below.refl _ _⟩
  by_cases hneg : pos < 0
  · go_wp2
    go_ret
    exact ⟨rfl, Below.refl _ _⟩
  have hss : (s.toList == s.toList) = true := beq_self_eq_true _
  go_wp2_with fail
  refine (make_any s pos depth w).mono ?_
  rintro e w1 ⟨⟨p, rfl, hpl, hP1⟩, hb1⟩
  have HB1 : Hid (Below w.heap.size w w1) := hb1
  clear hb1
  by_cases hout : (s.size : Int) ≤ pos
  · have hc1 := zzskip_of p w1 _ (skip_out p s pos depth w1 hout hP1)
    clear hP1
    go_wp2_with fail
    refine hc1.mono ?_
    clear hc1
    rintro e w2 ⟨rfl, hP2, hb2⟩
    have HB2 : Hid (Below w.heap.size w w2) := HB1.out.trans (hb2.mono hpl)
    have hc2 := fields_any p s pos depth w2 hP2
    clear hP2 hb2 HB1
    go_wp2_with fail
    refine hc2.mono ?_
    clear hc2
    rintro e w3 ⟨rfl, hP3, hb3⟩
    have HB3 : Hid (Below w.heap.size w w3) := HB2.out.trans (hb3.mono hpl)
    have hc3 := zzskip_of p w3 _ (skip_out p s pos depth w3 hout hP3)
    clear hP3 hb3 HB2
    go_wp2_with fail
    refine hc3.mono ?_
    clear hc3
    rintro e w4 ⟨rfl, hP4, hb4⟩
    have HB4 : Hid (Below w.heap.size w w4) := HB3.out.trans (hb4.mono hpl)
    have hc4 := fields_any p s pos depth w4 hP4
    clear hP4 hb4 HB3
    go_wp2_with fail
    refine hc4.mono ?_
    clear hc4
    rintro e w5 ⟨rfl, _, hb5⟩
    have HB5 : Hid (Below w.heap.size w w5) := HB4.out.trans (hb5.mono hpl)
    clear hb5 HB4
    go_wp2
    go_ret
    exact ⟨rfl, HB5.out⟩
  obtain ⟨j, rfl⟩ : ∃ j : Nat, pos = j := ⟨pos.toNat, by omega⟩
  have hjs : j ≤ s.size := by omega
  have hrl := sk_le hjs
  have hjr := le_sk s j
  have HID : Hid (sk s (sk s j) = sk s j) := sk_idem hjs
  have HBT : Hid (∀ k, j ≤ k → k < sk s j → Blank s k) := fun k h1 h2 => sk_between hjs h1 h2
  have HAT : Hid (sk s j < s.size → ¬ Blank s (sk s j)) := fun h => sk_at hjs h
  have hc1 := zzskip_of p w1 _ (skip_any p s j depth w1 (by omega) hjs hP1)
  have hsk2 : ∀ W, IsP W p s (sk s j) depth → Calls Try.prog 7 #[.pointer (some ⟨p, 0, none⟩)] W fun e w' => e = .returned (.tuple #[]) ∧ IsP w' p s (sk s j) depth ∧ Below p W w' := fun W h => by
    have := skip_any p s (sk s j) depth W (by omega) hrl h
    rw [HID.out] at this
    exact zzskip_of p W _ this
  have HSK : Hid (∀ W, IsP W p s (sk s j) depth → Calls Try.prog 7 #[.pointer (some ⟨p, 0, none⟩)] W fun e w' => e = .returned (.tuple #[]) ∧ IsP w' p s (sk s j) depth ∧ Below p W w') := hsk2
  clear hP1 HID hsk2
  generalize sk s j = r at *
  go_wp2_with fail
  refine hc1.mono ?_
  clear hc1
  rintro e w2 ⟨rfl, hP2, hb2⟩
  have HB2 : Hid (Below w.heap.size w w2) := HB1.out.trans (hb2.mono hpl)
  have hc2 := fields_any p s r depth w2 hP2
  clear hP2 hb2 HB1
  go_wp2_with fail
  refine hc2.mono ?_
  clear hc2
  rintro e w3 ⟨rfl, hP3, hb3⟩
  have HB3 : Hid (Below w.heap.size w w3) := HB2.out.trans (hb3.mono hpl)
  have hc3 := HSK.out w3 hP3
  clear hP3 hb3 HB2 HSK
  go_wp2_with fail
  refine hc3.mono ?_
  clear hc3
  rintro e w4 ⟨rfl, hP4, hb4⟩
  have HB4 : Hid (Below w.heap.size w w4) := HB3.out.trans (hb4.mono hpl)
  have hc4 := fields_any p s r depth w4 hP4
  clear hP4 hb4 HB3
  go_wp2_with fail
  refine hc4.mono ?_
  clear hc4
  rintro e w5 ⟨rfl, _, hb5⟩
  have HB5 : Hid (Below w.heap.size w w5) := HB4.out.trans (hb5.mono hpl)
  clear hb5 HB4
  have hr1 : ¬ (r : Int) < (j : Int) := by omega
  have hr2 : ¬ (s.size : Int) < (r : Int) := by omega
  go_upto_region 16 with fail
  go_cut [83] (fun v wx => v = .bool false ∧ w5 = wx)
  case first =>
    go_wp2
    go_meet
    case rel => exact ⟨congrArg Value.bool (by first | rfl | (simp; done) | (simp; omega)), rfl⟩
  case rest =>
    obtain ⟨rfl, rfl⟩ := hcut
    go_wp2
    go_loopw [14] (fun i wr => ∃ k : Nat, j ≤ k ∧ k ≤ r ∧ i = .int .i64 k ∧ Hid (Below w.heap.size w wr)) (fun i _ => r - (intOf i).toNat)
    case atStart => exact ⟨j, Nat.le_refl _, by omega, rfl, HB5.out⟩
    case round =>
      clear HB5
      obtain ⟨k, hk1, hk2, rfl, HB5⟩ := hrel
      by_cases hlt : k < r
      · have hlt' : (k : Int) < (r : Int) := by omega
        have hks : k < s.size := by omega
        have hks' : (k : Int) < (s.size : Int) := by omega
        have hcon := fun W => blank_any s[k].toNat W
        have hbt : isB s[k].toNat = true := by
          obtain ⟨_, hb⟩ := HBT.out k hk1 hlt
          exact isB_true hb
        rw [hbt] at hcon
        clear hbt
        go_wp2_with fail
        refine (hcon _).mono ?_
        clear hcon
        rintro e w5 ⟨rfl, rfl⟩
        go_wp2
        go_roundw
        case rel => exact ⟨k + 1, by omega, by omega, by go_num, HB5.out⟩
        case measure => simp [intOf]; omega
      · have hlt' : ¬ (k : Int) < (r : Int) := by omega
        by_cases hend : r = s.size
        · have hend' : ((r : Int) == (s.size : Int)) = true := beq_iff_eq.2 (by omega)
          clear hend
          go_wp2
          go_ret
          exact ⟨rfl, HB5.out⟩
        · have hend' : ((r : Int) == (s.size : Int)) = false := beq_eq_false_iff_ne.2 (by omega)
          have hrs : r < s.size := by omega
          have hrs' : (r : Int) < (s.size : Int) := by omega
          have hcon := fun W => blank_any s[r].toNat W
          have hbt : isB s[r].toNat = false := isB_false (fun hb => HAT.out hrs ⟨hrs, hb⟩)
          rw [hbt] at hcon
          clear hbt hend
          go_wp2_with fail
          refine (hcon _).mono ?_
          clear hcon
          rintro e w5 ⟨rfl, rfl⟩
          go_wp2
          go_ret
          exact ⟨rfl, HB5.out⟩
end Go.Proofs.Qxb6618136a
