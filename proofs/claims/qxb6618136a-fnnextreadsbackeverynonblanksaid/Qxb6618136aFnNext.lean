import Derived.Test.Qxb6618136aSkip
namespace Go.Proofs.Qxb6618136a
open Go.RowKit

/-- What next leaves. -/
def NextPost (p : Nat) (s : ByteArray) (b : Bool) (q depth : Int) (w : World) (e : Ending) (w' : World) : Prop := e = .returned (.bool b) ∧ IsP w' p s q depth ∧ Below p w w'

set_option maxHeartbeats 1000000 in
theorem next_yes (p : Nat) (s : ByteArray) (j m : Nat) (depth : Int) (w : World) (hs : s.size ≤ 65536) (hj : j ≤ s.size) (hm : m < s.size) (hsk : sk s j = m) (hp : IsP w p s j depth) :
    Calls Try.prog 13 #[.pointer (some ⟨p, 0, none⟩), .int .u8 s[m].toNat] w fun e w' => NextPost p s true ((m + 1 : Nat) : Int) depth w e w' := by
  have hc := skip_any p s j depth w hs hj hp
  rw [hsk] at hc
  clear hsk hp
  have hm' : (m : Int) < (s.size : Int) := by omega
  have hcc : ((s[m].toNat : Int) == (s[m].toNat : Int)) = true := beq_self_eq_true _
  go_enter Try.func13, Try.ntmps13
  go_wp2_with fail
  refine hc.mono ?_
  clear hc
  rintro e w1 ⟨rfl, hP, hb⟩
  have h0 := hP.text
  have h1 := hP.pos
  have hf := hP.free
  have HP : Hid (IsP w1 p s m depth) := hP
  have HB : Hid (Below p w w1) := hb
  clear hP hb
  go_wp2
  go_quiet (fail)
  go_wp2
  go_ret
  exact ⟨rfl, (HP.out.drewN nq).step, (below_drewN HB.out nq).setCell (Nat.le_refl _) _⟩

set_option maxHeartbeats 1000000 in
theorem next_no (p : Nat) (s : ByteArray) (q q2 depth c : Int) (w : World) (hq : (s.size : Int) ≤ q2)
    (hc : Calls Try.prog 12 #[.pointer (some ⟨p, 0, none⟩)] w fun e w' => e = .returned (.tuple #[]) ∧ IsP w' p s q2 depth ∧ Below p w w') (_hp : IsP w p s q depth) :
    Calls Try.prog 13 #[.pointer (some ⟨p, 0, none⟩), .int .u8 c] w fun e w' => NextPost p s false q2 depth w e w' := by
  have hd : decide (q2 < (s.size : Int)) = false := decide_eq_false (by omega)
  have HC : Hid (Calls Try.prog 12 #[.pointer (some ⟨p, 0, none⟩)] w fun e w' => e = .returned (.tuple #[]) ∧ IsP w' p s q2 depth ∧ Below p w w') := hc
  clear hc _hp
  go_enter Try.func13, Try.ntmps13
  go_wp2_with fail
  refine HC.out.mono ?_
  clear HC
  rintro e w1 ⟨rfl, hP, hb⟩
  have h0 := hP.text
  have h1 := hP.pos
  have HP : Hid (IsP w1 p s q2 depth) := hP
  have HB : Hid (Below p w w1) := hb
  clear hP hb
  go_wp2
  go_quiet (fail)
  go_wp2
  go_ret
  exact ⟨rfl, HP.out.drewN nq, below_drewN HB.out nq⟩

set_option maxHeartbeats 400000 in
theorem zznext_of (p : Nat) (s : ByteArray) (b : Bool) (q depth c : Int) (w : World) (h : Calls Try.prog 13 #[.pointer (some ⟨p, 0, none⟩), .int .u8 c] w fun e w' => NextPost p s b q depth w e w') :
    Calls Try.prog 11 #[.pointer (some ⟨p, 0, none⟩), .int .u8 c] w fun e w' => NextPost p s b q depth w e w' := by
  have H : Hid (Calls Try.prog 13 #[.pointer (some ⟨p, 0, none⟩), .int .u8 c] w fun e w' => NextPost p s b q depth w e w') := h
  clear h
  go_enter Try.func11, Try.ntmps11
  go_wp2_with fail
  refine H.out.mono ?_
  clear H
  rintro e w1 ⟨rfl, hP, hb⟩
  have HP : Hid (IsP w1 p s q depth) := hP
  have HB : Hid (Below p w w1) := hb
  clear hP hb
  go_wp2
  go_ret
  exact ⟨rfl, HP.out, HB.out⟩

set_option maxHeartbeats 2000000 in
set_option maxRecDepth 100000 in
theorem walk_next (s : ByteArray) (pos depth c : Int) (w : World) (hs : s.size ≤ maxLen) :
    Calls Try.prog 4 #[.string s, .int .i64 pos, .int .i64 depth, .int .u8 c] w fun e w' => e = .returned (.bool true) ∧ Below w.heap.size w w' := by
  have hby := bytes_next s pos depth c w hs
  clear hs
  go_enter Try.func4, Try.ntmps4
  go_wp2_with fail
  refine hby.mono ?_
  clear hby
  rintro e w ⟨⟨r, rfl, hsm⟩, rfl⟩
  cases r
  · go_wp2
    go_ret
    exact ⟨rfl, Below.refl _ _⟩
  have hs := hsm rfl
  clear hsm
  by_cases hbig : (65536 : Int) < (s.size : Int)
  · go_wp2
    go_ret
    exact ⟨rfl, Below.refl _ _⟩
  by_cases hneg : pos < 0
  · go_wp2
    go_ret
    exact ⟨rfl, Below.refl _ _⟩
  have hss : (s.toList == s.toList) = true := beq_self_eq_true _
  go_wp2_with fail
  refine (make_any s pos depth w).mono ?_
  rintro e w1 ⟨⟨p, rfl, hpl, hP1⟩, hb1⟩
  have HB1 : Hid (Below w.heap.size w w1) := hb1
  clear hb1
  by_cases hout : (s.size : Int) ≤ pos
  · have hout' : ¬ pos < (s.size : Int) := by omega
    have hn := zznext_of p s false pos depth c w1 (next_no p s pos pos depth c w1 hout (skip_out p s pos depth w1 hout hP1) hP1)
    clear hP1
    go_wp2
    go_loopw [10] (fun i wr => i = .int .i64 pos ∧ w1 = wr) (fun _ _ => 0)
    case atStart => exact ⟨rfl, rfl⟩
    case round =>
      obtain ⟨rfl, rfl⟩ := hrel
      go_wp2_with fail
      refine hn.mono ?_
      clear hn
      rintro e w2 ⟨rfl, hP2, hb2⟩
      have HB2 : Hid (Below w.heap.size w w2) := HB1.out.trans (hb2.mono hpl)
      have hc2 := fields_any p s pos depth w2 hP2
      clear hP2 hb2 HB1
      go_wp2_with fail
      refine hc2.mono ?_
      clear hc2
      rintro e w3 ⟨rfl, _, hb3⟩
      have HB3 : Hid (Below w.heap.size w w3) := HB2.out.trans (hb3.mono hpl)
      clear hb3 HB2
      by_cases hgt : (s.size : Int) < pos
      · go_wp2
        go_ret
        exact ⟨rfl, HB3.out⟩
      · have he : (pos == (s.size : Int)) = true := beq_iff_eq.2 (by omega)
        go_wp2
        go_ret
        exact ⟨rfl, HB3.out⟩
  obtain ⟨j0, rfl⟩ : ∃ j : Nat, pos = j := ⟨pos.toNat, by omega⟩
  have HP1 : Hid (IsP w1 p s j0 depth) := hP1
  clear hP1
  go_wp2
  go_loopw [10] (fun i wr => ∃ j q : Nat, j ≤ s.size ∧ q ≤ j ∧ i = .int .i64 j ∧ Hid (sk s q = sk s j) ∧ Hid (IsP wr p s q depth) ∧ Hid (Below w.heap.size w wr)) (fun i _ => s.size - (intOf i).toNat)
  case atStart => exact ⟨j0, j0, by omega, Nat.le_refl _, rfl, rfl, HP1.out, HB1.out⟩
  case round =>
    clear HP1 HB1
    obtain ⟨j, q, hjs, hqj, rfl, hsk, hP, hB⟩ := hrel
    by_cases hlt : j < s.size
    · have hlt' : (j : Int) < (s.size : Int) := by omega
      have hbl := fun W => blank_any s[j].toNat W
      by_cases hb : s[j].toNat = 32 ∨ s[j].toNat = 9
      · rw [isB_true hb] at hbl
        have hsk2 : Hid (sk s q = sk s (j + 1)) := by show _ = _; rw [hsk.out, sk_blank hlt hb]
        clear hb hsk
        go_wp2_with fail
        refine (hbl _).mono ?_
        clear hbl
        rintro e wr ⟨rfl, rfl⟩
        go_wp2
        go_roundw
        case rel => exact ⟨j + 1, q, by omega, by omega, by go_num, hsk2.out, hP.out, hB.out⟩
        case measure => simp [intOf]; omega
      · rw [isB_false hb] at hbl
        have hsk2 : sk s q = j := by rw [hsk.out, sk_stop hlt hb]
        have hn := zznext_of p s true _ depth _ _ (next_yes p s q j depth _ (by omega) (by omega) hlt hsk2 hP.out)
        have HN : Hid (Calls Try.prog 11 #[.pointer (some ⟨p, 0, none⟩), .int .u8 s[j].toNat] wr fun e w' => NextPost p s true ((j + 1 : Nat) : Int) depth wr e w') := hn
        clear hb hsk hsk2 hn hP
        go_wp2_with fail
        refine (hbl _).mono ?_
        clear hbl
        rintro e wr ⟨rfl, rfl⟩
        go_wp2_with fail
        refine HN.out.mono ?_
        clear HN
        rintro e w2 ⟨rfl, hP2, hb2⟩
        have HB2 : Hid (Below w.heap.size w w2) := hB.out.trans (hb2.mono hpl)
        have hc2 := fields_any p s ((j + 1 : Nat) : Int) depth w2 hP2
        have ecast : ((j + 1 : Nat) : Int) = (j : Int) + 1 := by omega
        rw [ecast] at hc2
        have HC2 : Hid (Calls Try.prog 8 #[.pointer (some ⟨p, 0, none⟩)] w2 fun e w' => e = .returned (.tuple #[.string s, .int .i64 ((j : Int) + 1), .int .i64 depth]) ∧ IsP w' p s ((j : Int) + 1) depth ∧ Below p w2 w') := hc2
        clear hP2 hb2 hB hc2 ecast
        go_wp2_with fail
        refine HC2.out.mono ?_
        clear HC2
        rintro e w3 ⟨rfl, hP3, hb3⟩
        have HB3 : Hid (Below w.heap.size w w3) := HB2.out.trans (hb3.mono hpl)
        have HP3 : Hid (IsP w3 p s ((j + 1 : Nat) : Int) depth) := by
          show IsP _ _ _ _ _
          rw [show ((j + 1 : Nat) : Int) = (j : Int) + 1 from by omega]
          exact hP3
        clear hP3 hb3 HB2
        go_wp2
        go_roundw
        case rel => exact ⟨j + 1, j + 1, by omega, Nat.le_refl _, by go_num, rfl, HP3.out, HB3.out⟩
        case measure => simp [intOf]; omega
    · have hlt' : ¬ (j : Int) < (s.size : Int) := by omega
      have hskq : sk s q = s.size := by rw [hsk.out, sk_end (by omega)]; omega
      have hcq := skip_any p s q depth _ (by omega) (by omega) hP.out
      rw [hskq] at hcq
      have hn := zznext_of p s false _ depth c _ (next_no p s q s.size depth c _ (Int.le_refl _) hcq hP.out)
      have HN : Hid (Calls Try.prog 11 #[.pointer (some ⟨p, 0, none⟩), .int .u8 c] wr fun e w' => NextPost p s false (s.size : Int) depth wr e w') := hn
      clear hn hcq hskq hsk hP
      go_wp2_with fail
      refine HN.out.mono ?_
      clear HN
      rintro e w2 ⟨rfl, hP2, hb2⟩
      have HB2 : Hid (Below w.heap.size w w2) := hB.out.trans (hb2.mono hpl)
      have hc2 := fields_any p s s.size depth w2 hP2
      clear hP2 hb2 hB
      go_wp2_with fail
      refine hc2.mono ?_
      clear hc2
      rintro e w3 ⟨rfl, _, hb3⟩
      have HB3 : Hid (Below w.heap.size w w3) := HB2.out.trans (hb3.mono hpl)
      clear hb3 HB2
      have hgt : ¬ (s.size : Int) < (j0 : Int) := by omega
      go_wp2
      go_ret
      exact ⟨rfl, HB3.out⟩
end Go.Proofs.Qxb6618136a
