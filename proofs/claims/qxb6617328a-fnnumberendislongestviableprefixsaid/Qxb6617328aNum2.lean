import Derived.Test.Qxb6617328aNum1
namespace Go.Proofs.Qxb6617328a
open Go.RowKit

/-- The bytes' values from place j on. -/
def sfx (s : ByteArray) (j : Nat) : List Nat := (s.data.toList.map UInt8.toNat).drop j
theorem sfx_cons (s : ByteArray) (j : Nat) (h : j < s.size) : sfx s j = s[j].toNat :: sfx s (j + 1) := by
  unfold sfx
  have hl : j < (s.data.toList.map UInt8.toNat).length := by simpa using h
  rw [List.drop_eq_getElem_cons hl, List.getElem_map]
  rfl
theorem sfx_nil (s : ByteArray) (j : Nat) (h : s.size ≤ j) : sfx s j = [] := by
  unfold sfx
  exact List.drop_eq_nil_of_le (by simpa using h)
theorem sfx_drop (s : ByteArray) (j d : Nat) : (sfx s j).drop d = sfx s (j + d) := by
  unfold sfx
  rw [List.drop_drop]
theorem sfx_length (s : ByteArray) (j : Nat) : (sfx s j).length = s.size - j := by
  unfold sfx
  rw [List.length_drop, List.length_map]
  rfl

def outE (i : Nat) (o : Option Nat) : Int := match o with | none => 0 | some n => (i : Int) + (n : Int)

/-- The answer of the model, and of numberEnd. -/
def Ans (s : ByteArray) (i : Nat) : Value := .tuple #[.int .i64 (outE i (numEnd (sfx s i))), .bool (numEnd (sfx s i)).isSome]
theorem ans_none {s : ByteArray} {i : Nat} (h : numEnd (sfx s i) = none) : Ans s i = .tuple #[.int .i64 0, .bool false] := by
  unfold Ans; rw [h]; rfl
theorem ans_some {s : ByteArray} {i n : Nat} (h : numEnd (sfx s i) = some n) : Ans s i = .tuple #[.int .i64 ((i : Int) + (n : Int)), .bool true] := by
  unfold Ans; rw [h]; rfl

set_option maxHeartbeats 1000000 in
theorem model_any (s : ByteArray) (i : Nat) (w : World) (hs : s.size ≤ 1048576) (hi : i < s.size) :
    Calls Try.prog 7 #[.string s, .int .i64 i] w fun e w' => e = .returned (Ans s i) ∧ w' = w := by
  have hi' : ¬ (s.size : Int) ≤ (i : Int) := by omega
  go_enter Try.func7, Try.ntmps7
  go_wp2
  go_loop [6, 7] (fun a b => ∃ st j : Nat, i ≤ j ∧ j ≤ s.size ∧ st ≤ 8 ∧ a = .int .i64 st ∧ b = .int .i64 j ∧ Hid (mrun 0 (sfx s i) = ((mrun st (sfx s j)).1, (mrun st (sfx s j)).2 + (j - i)))) (fun _ b => s.size - (intOf b).toNat)
  case atStart => exact ⟨0, i, by omega, by omega, by omega, rfl, rfl, by show _ = _; rw [Nat.sub_self]; rfl⟩
  case round =>
    obtain ⟨st, j, hij, hjs, hst, rfl, rfl, hm⟩ := hrel
    have fin : ∀ hfin : (mrun st (sfx s j)) = (st, 0), Hid ((acc st = true → Ans s i = .tuple #[.int .i64 (j : Int), .bool true]) ∧ (acc st = false → Ans s i = .tuple #[.int .i64 0, .bool false])) := by
      intro hfin
      have hm2 := hm.out
      rw [hfin] at hm2
      have hr := res0 (sfx s i)
      rw [hm2] at hr
      simp only [res] at hr
      constructor
      · intro ha
        rw [if_pos ha] at hr
        rw [ans_some hr.symm]
        have : (i : Int) + ((0 + (j - i) : Nat) : Int) = (j : Int) := by omega
        rw [this]
      · intro ha
        rw [if_neg (by rw [ha]; simp)] at hr
        exact ans_none hr.symm
    by_cases hlt : j < s.size
    · have hlt' : (j : Int) < (s.size : Int) := by omega
      have hb := s[j].toNat_lt
      cases ht : tr st s[j].toNat with
      | none =>
        have F := fin (by rw [sfx_cons s j hlt]; simp only [mrun, ht])
        have hcon := fun W => step_any st s[j].toNat W hst (by omega)
        rw [ht] at hcon
        clear fin hm ht
        cases ha : acc st with
        | true =>
          have F1 : Hid (Ans s i = .tuple #[.int .i64 (j : Int), .bool true]) := F.out.1 ha
          have hacc := fun W => acc_any st W hst
          rw [ha] at hacc
          clear F ha
          go_wp2_with fail
          refine (hcon _).mono ?_
          rintro e w ⟨rfl, rfl⟩
          simp only [code]
          go_wp2_with fail
          refine (hacc _).mono ?_
          rintro e w ⟨rfl, rfl⟩
          go_wp2
          go_ret2
          exact ⟨by rw [F1.out]; rfl, rfl⟩
        | false =>
          have F1 : Hid (Ans s i = .tuple #[.int .i64 0, .bool false]) := F.out.2 ha
          have hacc := fun W => acc_any st W hst
          rw [ha] at hacc
          clear F ha
          go_wp2_with fail
          refine (hcon _).mono ?_
          rintro e w ⟨rfl, rfl⟩
          simp only [code]
          go_wp2_with fail
          refine (hacc _).mono ?_
          rintro e w ⟨rfl, rfl⟩
          go_wp2
          go_ret2
          exact ⟨by rw [F1.out]; rfl, rfl⟩
      | some t =>
        have hm2 : Hid (mrun 0 (sfx s i) = ((mrun t (sfx s (j + 1))).1, (mrun t (sfx s (j + 1))).2 + (j + 1 - i))) := by
          show _ = _
          rw [hm.out, sfx_cons s j hlt]
          simp only [mrun, ht]
          congr 1
          omega
        have htl := tr_le ht
        have hcon := fun W => step_any st s[j].toNat W hst (by omega)
        rw [ht] at hcon
        clear fin hm ht
        go_wp2_with fail
        refine (hcon _).mono ?_
        rintro e w ⟨rfl, rfl⟩
        simp only [code]
        go_wp2
        go_round
        case rel => exact ⟨t, j + 1, by omega, by omega, htl, rfl, by go_num, hm2.out⟩
        case measure => simp [intOf]; omega
    · have hlt' : ¬ (j : Int) < (s.size : Int) := by omega
      have F := fin (by rw [sfx_nil s j (by omega)]; rfl)
      clear fin hm
      cases ha : acc st with
      | true =>
        have F1 : Hid (Ans s i = .tuple #[.int .i64 (j : Int), .bool true]) := F.out.1 ha
        have hacc := fun W => acc_any st W hst
        rw [ha] at hacc
        clear F ha
        go_wp2_with fail
        refine (hacc _).mono ?_
        rintro e w ⟨rfl, rfl⟩
        go_wp2
        go_ret2
        exact ⟨by rw [F1.out]; rfl, rfl⟩
      | false =>
        have F1 : Hid (Ans s i = .tuple #[.int .i64 0, .bool false]) := F.out.2 ha
        have hacc := fun W => acc_any st W hst
        rw [ha] at hacc
        clear F ha
        go_wp2_with fail
        refine (hacc _).mono ?_
        rintro e w ⟨rfl, rfl⟩
        go_wp2
        go_ret2
        exact ⟨by rw [F1.out]; rfl, rfl⟩

set_option maxHeartbeats 1000000 in
theorem model_out (s : ByteArray) (i : Int) (w : World) (hi : (s.size : Int) ≤ i) :
    Calls Try.prog 7 #[.string s, .int .i64 i] w fun e w' => e = .returned (.tuple #[.int .i64 0, .bool false]) ∧ w' = w := by
  go_enter Try.func7, Try.ntmps7
  go_wp2
  go_ret2
  exact ⟨rfl, rfl⟩

set_option maxHeartbeats 1000000 in
theorem digits_any (s : ByteArray) (i : Nat) (w : World) (hs : s.size ≤ 1048576) (hi : i ≤ s.size) :
    Calls Try.prog 21 #[.string s, .int .i64 i] w fun e w' => e = .returned (.int .i64 ((i + dg (sfx s i) : Nat) : Int)) ∧ w' = w := by
  go_enter Try.func21, Try.ntmps21
  go_wp2
  go_loop [1] (fun b => ∃ j : Nat, i ≤ j ∧ j ≤ s.size ∧ b = .int .i64 j ∧ Hid (i + dg (sfx s i) = j + dg (sfx s j))) (fun b => s.size - (intOf b).toNat)
  case atStart => exact ⟨i, by omega, hi, rfl, rfl⟩
  case round =>
    obtain ⟨j, hij, hjs, rfl, hm⟩ := hrel
    by_cases hlt : j < s.size
    · have hlt' : (j : Int) < (s.size : Int) := by omega
      by_cases h1 : 48 ≤ s[j].toNat
      · by_cases h2 : s[j].toNat ≤ 57
        · have hm2 : Hid (i + dg (sfx s i) = j + 1 + dg (sfx s (j + 1))) := by
            show _ = _
            rw [hm.out, sfx_cons s j hlt, dg_pos ⟨h1, h2⟩]
            omega
          have i1 : (48 : Int) ≤ (s[j].toNat : Int) := by omega
          have i2 : (s[j].toNat : Int) ≤ 57 := by omega
          clear hm h1 h2
          go_wp2
          go_round
          case rel => exact ⟨j + 1, by omega, by omega, by go_num, hm2.out⟩
          case measure => simp [intOf]; omega
        · have hm2 : Hid (i + dg (sfx s i) = j) := by
            show _ = _
            rw [hm.out, sfx_cons s j hlt, dg_neg (by omega)]
            rfl
          have i1 : (48 : Int) ≤ (s[j].toNat : Int) := by omega
          have i2 : ¬ (s[j].toNat : Int) ≤ 57 := by omega
          clear hm h1 h2
          go_wp2
          go_ret
          exact ⟨ret_int (by have := hm2.out; omega), rfl⟩
      · have hm2 : Hid (i + dg (sfx s i) = j) := by
          show _ = _
          rw [hm.out, sfx_cons s j hlt, dg_neg (by omega)]
          rfl
        have i1 : ¬ (48 : Int) ≤ (s[j].toNat : Int) := by omega
        clear hm h1
        go_wp2
        go_ret
        exact ⟨ret_int (by have := hm2.out; omega), rfl⟩
    · have hlt' : ¬ (j : Int) < (s.size : Int) := by omega
      have hm2 : Hid (i + dg (sfx s i) = j) := by
        show _ = _
        rw [hm.out, sfx_nil s j (by omega)]
        rfl
      clear hm
      go_wp2
      go_ret
      exact ⟨ret_int (by have := hm2.out; omega), rfl⟩
end Go.Proofs.Qxb6617328a
