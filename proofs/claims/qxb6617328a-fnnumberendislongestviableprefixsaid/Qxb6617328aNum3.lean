import Derived.Test.Qxb6617328aNum2
namespace Go.Proofs.Qxb6617328a
open Go.RowKit

theorem digits_at (s : ByteArray) (i : Nat) (a r : Int) (w : World) (ha : a = (i : Int)) (hr : r = ((i + dg (sfx s i) : Nat) : Int)) (hs : s.size ≤ 1048576) (hi : i ≤ s.size) :
    Calls Try.prog 21 #[.string s, .int .i64 a] w fun e w' => e = .returned (.int .i64 r) ∧ w' = w := by
  subst ha hr
  exact digits_any s i w hs hi

theorem dg_sfx_le (s : ByteArray) (i : Nat) (h : i ≤ s.size) : i + dg (sfx s i) ≤ s.size := by
  have := dg_le (sfx s i)
  rw [sfx_length] at this
  omega

/-- What is left to read from place j on, told by N: the whole answer from place i on. -/
def Left (s : ByteArray) (i : Nat) (f : List Nat → Option Nat) (j : Nat) : Prop := i ≤ j ∧ j ≤ s.size ∧ numEnd (sfx s i) = (f (sfx s j)).map (· + (j - i))

theorem Left.none {s : ByteArray} {i j : Nat} {f : List Nat → Option Nat} (h : Left s i f j) (hn : f (sfx s j) = Option.none) : Ans s i = .tuple #[.int .i64 0, .bool false] :=
  ans_none (by rw [h.2.2, hn]; rfl)
theorem Left.some {s : ByteArray} {i j n : Nat} {f : List Nat → Option Nat} (h : Left s i f j) (hn : f (sfx s j) = Option.some n) : Ans s i = .tuple #[.int .i64 ((j : Int) + (n : Int)), .bool true] := by
  have e : numEnd (sfx s i) = Option.some (n + (j - i)) := by rw [h.2.2, hn]; rfl
  rw [ans_some e]
  have := h.1
  have e2 : (i : Int) + ((n + (j - i) : Nat) : Int) = (j : Int) + (n : Int) := by omega
  rw [e2]
theorem Left.next {s : ByteArray} {i j d : Nat} {f g : List Nat → Option Nat} (h : Left s i f j) (hj : j + d ≤ s.size) (hn : f (sfx s j) = (g (sfx s (j + d))).map (· + d)) : Left s i g (j + d) := by
  refine ⟨by have := h.1; omega, hj, ?_⟩
  rw [h.2.2, hn, map_map]
  congr 1
  funext x
  have := h.1
  omega

set_option maxHeartbeats 1000000 in
theorem number_out (s : ByteArray) (i : Int) (w : World) (hi : (s.size : Int) ≤ i) :
    Calls Try.prog 17 #[.string s, .int .i64 i] w fun e w' => e = .returned (.tuple #[.int .i64 0, .bool false]) ∧ w' = w := by
  have hn : ¬ i < (s.size : Int) := by omega
  go_enter Try.func17, Try.ntmps17
  go_wp2
  go_ret2
  exact ⟨rfl, rfl⟩

set_option maxHeartbeats 4000000 in
set_option maxRecDepth 100000 in
theorem number_any (s : ByteArray) (i : Nat) (w : World) (hs : s.size ≤ 1048576) (hi : i < s.size) :
    Calls Try.prog 17 #[.string s, .int .i64 i] w fun e w' => e = .returned (Ans s i) ∧ w' = w := by
  have hi' : (i : Int) < (s.size : Int) := by omega
  have L0 : Hid (Left s i numEnd i) := ⟨Nat.le_refl _, by omega, by rw [Nat.sub_self, map_zero]⟩
  go_enter Try.func17, Try.ntmps17
  go_upto_if 17 with fail
  go_cut [1] (fun v wx => ∃ j : Nat, j ≤ s.size ∧ v = .int .i64 j ∧ Hid (Left s i whole j) ∧ w = wx)
  case first =>
    by_cases h : s[i].toNat = 45
    · have t1 : ((s[i].toNat : Int) == 45) = true := beq_iff_eq.2 (by omega)
      have L1 : Hid (Left s i whole (i + 1)) := L0.out.next (by omega) (by rw [sfx_cons s i hi]; simp only [numEnd]; rw [if_pos h])
      clear h L0
      go_wp2
      go_meet
      case rel => exact ⟨i + 1, by omega, by go_num, L1.out, rfl⟩
    · have t1 : ((s[i].toNat : Int) == 45) = false := beq_eq_false_iff_ne.2 (by omega)
      have L1 : Hid (Left s i whole (i + 0)) := L0.out.next (by omega) (by rw [Nat.add_zero, map_zero, sfx_cons s i hi]; simp only [numEnd]; rw [if_neg h])
      clear h L0
      go_wp2
      go_meet
      case rel => exact ⟨i, by omega, rfl, L1.out, rfl⟩
  case rest =>
    clear L0
    obtain ⟨j, hjs, rfl, L1, rfl⟩ := hcut
    by_cases hj : j < s.size
    case neg =>
      have hj' : ¬ (j : Int) < (s.size : Int) := by omega
      have F : Hid (Ans s i = .tuple #[.int .i64 0, .bool false]) := L1.out.none (by rw [sfx_nil s j (by omega)]; rfl)
      clear L1
      go_wp2
      go_ret2
      exact ⟨by rw [F.out]; rfl, rfl⟩
    have hj' : (j : Int) < (s.size : Int) := by omega
    go_upto_if 29 with fail
    go_cut [1] (fun v wx => ∃ k : Nat, k ≤ s.size ∧ v = .int .i64 k ∧ Hid (Left s i tailF k) ∧ w = wx)
    case first =>
      by_cases h : s[j].toNat = 48
      · have t1 : ((s[j].toNat : Int) == 48) = true := beq_iff_eq.2 (by omega)
        have L2 : Hid (Left s i tailF (j + 1)) := L1.out.next (by omega) (by rw [sfx_cons s j hj]; simp only [whole]; rw [if_pos h])
        clear h L1
        go_wp2
        go_meet
        case rel => exact ⟨j + 1, by omega, by go_num, L2.out, rfl⟩
      · have t1 : ((s[j].toNat : Int) == 48) = false := beq_eq_false_iff_ne.2 (by omega)
        by_cases h2 : 49 ≤ s[j].toNat ∧ s[j].toNat ≤ 57
        · have t2 : (49 : Int) ≤ (s[j].toNat : Int) := by omega
          have t3 : (s[j].toNat : Int) ≤ 57 := by omega
          have hdl := dg_sfx_le s j hjs
          have L2 : Hid (Left s i tailF (j + dg (sfx s j))) := L1.out.next hdl (by
            rw [← sfx_drop, sfx_cons s j hj]; simp only [whole]; rw [if_neg h, if_pos h2])
          obtain ⟨k, hk⟩ : ∃ k, k = j + dg (sfx s j) := ⟨_, rfl⟩
          have hcon := digits_at s j (j : Int) (k : Int) w rfl (by rw [hk]) hs hjs
          rw [← hk] at L2 hdl
          clear h h2 L1 hk
          go_wp2_with fail
          refine hcon.mono ?_
          clear hcon
          rintro e w ⟨rfl, rfl⟩
          go_wp2
          go_meet
          case rel => exact ⟨k, hdl, rfl, L2.out, rfl⟩
        · have F : Hid (Ans s i = .tuple #[.int .i64 0, .bool false]) := L1.out.none (by rw [sfx_cons s j hj]; simp only [whole]; rw [if_neg h, if_neg h2])
          have t2 : ¬ (49 : Int) ≤ (s[j].toNat : Int) ∨ ((49 : Int) ≤ (s[j].toNat : Int) ∧ ¬ (s[j].toNat : Int) ≤ 57) := by omega
          clear h h2 L1
          rcases t2 with t2 | ⟨t2, t3⟩
          · go_wp2
            go_ret2
            exact ⟨by rw [F.out]; rfl, rfl⟩
          · go_wp2
            go_ret2
            exact ⟨by rw [F.out]; rfl, rfl⟩
    case rest =>
      clear L1 hj hj' hjs
      obtain ⟨k, hks, rfl, L2, rfl⟩ := hcut
      by_cases hk : k < s.size
      case neg =>
        have hk' : ¬ (k : Int) < (s.size : Int) := by omega
        have F : Hid (Ans s i = .tuple #[.int .i64 ((k : Int) + ((0 : Nat) : Int)), .bool true]) := L2.out.some (by rw [sfx_nil s k (by omega)]; rfl)
        clear L2
        go_wp2
        go_ret2
        exact ⟨by rw [F.out]; simp, rfl⟩
      have hk' : (k : Int) < (s.size : Int) := by omega
      go_upto_if 60 with fail
      go_cut [1] (fun v wx => ∃ m : Nat, m ≤ s.size ∧ v = .int .i64 m ∧ Hid (Left s i tailE m) ∧ w = wx)
      case first =>
        by_cases h : s[k].toNat = 46
        · have t1 : ((s[k].toNat : Int) == 46) = true := beq_iff_eq.2 (by omega)
          have hdl := dg_sfx_le s (k + 1) (by omega)
          have hF : tailF (sfx s k) = (frac (sfx s (k + 1))).map (· + 1) := by rw [sfx_cons s k hk]; simp only [tailF]; rw [if_pos h]
          obtain ⟨r, hr⟩ : ∃ r : Nat, r = k + 1 + dg (sfx s (k + 1)) := ⟨_, rfl⟩
          have hcon := digits_at s (k + 1) ((k : Int) + 1) (r : Int) w (by omega) (by rw [hr]) hs (by omega)
          by_cases hd : dg (sfx s (k + 1)) = 0
          · have F : Hid (Ans s i = .tuple #[.int .i64 0, .bool false]) := L2.out.none (by rw [hF]; unfold frac; rw [if_pos hd]; rfl)
            have t2 : ((r : Int) == (k : Int) + 1) = true := beq_iff_eq.2 (by omega)
            clear h L2 hd hF hr hdl
            go_wp2_with fail
            refine hcon.mono ?_
            clear hcon
            rintro e w ⟨rfl, rfl⟩
            go_wp2
            go_ret2
            exact ⟨by rw [F.out]; rfl, rfl⟩
          · have t2 : ((r : Int) == (k : Int) + 1) = false := beq_eq_false_iff_ne.2 (by omega)
            have L3 : Hid (Left s i tailE (k + (dg (sfx s (k + 1)) + 1))) := L2.out.next (by omega) (by
              rw [hF]; unfold frac; rw [if_neg hd, map_map, sfx_drop, show k + (dg (sfx s (k + 1)) + 1) = k + 1 + dg (sfx s (k + 1)) by omega])
            rw [show k + (dg (sfx s (k + 1)) + 1) = r by omega] at L3
            have hrl : r ≤ s.size := by omega
            clear h L2 hd hF hr hdl
            go_wp2_with fail
            refine hcon.mono ?_
            clear hcon
            rintro e w ⟨rfl, rfl⟩
            go_wp2
            go_meet
            case rel => exact ⟨r, hrl, rfl, L3.out, rfl⟩
        · have t1 : ((s[k].toNat : Int) == 46) = false := beq_eq_false_iff_ne.2 (by omega)
          have L3 : Hid (Left s i tailE (k + 0)) := L2.out.next (by omega) (by rw [Nat.add_zero, map_zero, sfx_cons s k hk]; simp only [tailF]; rw [if_neg h])
          clear h L2
          go_wp2
          go_meet
          case rel => exact ⟨k, by omega, rfl, L3.out, rfl⟩
      case rest =>
        clear L2 hk hk' hks
        obtain ⟨m, hms, rfl, L3, rfl⟩ := hcut
        by_cases hm : m < s.size
        case neg =>
          have hm' : ¬ (m : Int) < (s.size : Int) := by omega
          have F : Hid (Ans s i = .tuple #[.int .i64 ((m : Int) + ((0 : Nat) : Int)), .bool true]) := L3.out.some (by rw [sfx_nil s m (by omega)]; rfl)
          clear L3
          go_wp2
          go_ret2
          exact ⟨by rw [F.out]; simp, rfl⟩
        have hm' : (m : Int) < (s.size : Int) := by omega
        by_cases h : s[m].toNat = 101 ∨ s[m].toNat = 69
        case neg =>
          have t1 : ((s[m].toNat : Int) == 101) = false := beq_eq_false_iff_ne.2 (by omega)
          have t2 : ((s[m].toNat : Int) == 69) = false := beq_eq_false_iff_ne.2 (by omega)
          have F : Hid (Ans s i = .tuple #[.int .i64 ((m : Int) + ((0 : Nat) : Int)), .bool true]) := L3.out.some (by rw [sfx_cons s m hm]; simp only [tailE]; rw [if_neg h])
          clear L3 h
          go_wp2
          go_ret2
          exact ⟨by rw [F.out]; simp, rfl⟩
        have L4 : Hid (Left s i ex (m + 1)) := L3.out.next (by omega) (by rw [sfx_cons s m hm]; simp only [tailE]; rw [if_pos h])
        have T : Hid (((s[m].toNat : Int) == 101) = true ∨ (((s[m].toNat : Int) == 101) = false ∧ ((s[m].toNat : Int) == 69) = true)) := by
          rcases h with h | h
          · exact .inl (beq_iff_eq.2 (by omega))
          · exact .inr ⟨beq_eq_false_iff_ne.2 (by omega), beq_iff_eq.2 (by omega)⟩
        clear L3 h
        go_upto_region 13 with fail
        go_cut [85] (fun v wx => v = .bool true ∧ w = wx)
        case first =>
          rcases T.out with t1 | ⟨t1, t2⟩
          · go_wp2
            go_meet
            case rel => exact ⟨rfl, rfl⟩
          · go_wp2
            go_meet
            case rel => exact ⟨rfl, rfl⟩
        case rest =>
          clear T
          obtain ⟨rfl, rfl⟩ := hcut
          by_cases hm2 : m + 1 < s.size
          case neg =>
            have hm2' : ¬ (m : Int) + 1 < (s.size : Int) := by omega
            have F : Hid (Ans s i = .tuple #[.int .i64 0, .bool false]) := L4.out.none (by rw [sfx_nil s (m + 1) (by omega)]; rfl)
            have hcon := digits_at s (m + 1) ((m : Int) + 1) ((m : Int) + 1) w (by omega) (by rw [sfx_nil s (m + 1) (by omega)]; simp [dg]) hs (by omega)
            clear L4
            go_wp2_with fail
            refine hcon.mono ?_
            clear hcon
            rintro e w ⟨rfl, rfl⟩
            go_wp2
            go_ret2
            exact ⟨by rw [F.out]; rfl, rfl⟩
          have hm2' : (m : Int) + 1 < (s.size : Int) := by omega
          by_cases h : s[m + 1].toNat = 43 ∨ s[m + 1].toNat = 45
          · have hE : ex (sfx s (m + 1)) = (some0 (dg (sfx s (m + 1 + 1)))).map (· + 1) := by rw [sfx_cons s (m + 1) hm2]; simp only [ex]; rw [if_pos h]
            have T : Hid (((s[m + 1].toNat : Int) == 43) = true ∨ (((s[m + 1].toNat : Int) == 43) = false ∧ ((s[m + 1].toNat : Int) == 45) = true)) := by
              rcases h with h | h
              · exact .inl (beq_iff_eq.2 (by omega))
              · exact .inr ⟨beq_eq_false_iff_ne.2 (by omega), beq_iff_eq.2 (by omega)⟩
            obtain ⟨r, hr⟩ : ∃ r : Nat, r = m + 1 + 1 + dg (sfx s (m + 1 + 1)) := ⟨_, rfl⟩
            have hcon := digits_at s (m + 1 + 1) ((m : Int) + 1 + 1) (r : Int) w (by omega) (by rw [hr]) hs (by omega)
            have HCON : Hid (Calls Try.prog 21 #[.string s, .int .i64 ((m : Int) + 1 + 1)] w fun e w' => e = .returned (.int .i64 (r : Int)) ∧ w' = w) := hcon
            clear hcon
            go_upto_region 15 with fail
            go_cut [103] (fun v wx => v = .bool true ∧ w = wx)
            case first =>
              clear h hE hr
              rcases T.out with t1 | ⟨t1, t2⟩
              · go_wp2
                go_meet
                case rel => exact ⟨rfl, rfl⟩
              · go_wp2
                go_meet
                case rel => exact ⟨rfl, rfl⟩
            case rest =>
              clear T
              obtain ⟨rfl, rfl⟩ := hcut
              by_cases hd : dg (sfx s (m + 1 + 1)) = 0
              · have F : Hid (Ans s i = .tuple #[.int .i64 0, .bool false]) := L4.out.none (by rw [hE, hd]; rfl)
                have t2 : ((r : Int) == (m : Int) + 1 + 1) = true := beq_iff_eq.2 (by omega)
                clear h L4 hd hE hr
                go_wp2_with fail
                refine HCON.out.mono ?_
                clear HCON
                rintro e w ⟨rfl, rfl⟩
                go_wp2
                go_ret2
                exact ⟨by rw [F.out]; rfl, rfl⟩
              · have F : Hid (Ans s i = .tuple #[.int .i64 (((m + 1 : Nat) : Int) + ((dg (sfx s (m + 1 + 1)) + 1 : Nat) : Int)), .bool true]) := L4.out.some (by rw [hE]; unfold some0; rw [if_neg hd]; rfl)
                have F2 : Hid (((m + 1 : Nat) : Int) + ((dg (sfx s (m + 1 + 1)) + 1 : Nat) : Int) = (r : Int)) := by show _ = _; omega
                have t2 : ((r : Int) == (m : Int) + 1 + 1) = false := beq_eq_false_iff_ne.2 (by omega)
                clear h L4 hd hE hr
                go_wp2_with fail
                refine HCON.out.mono ?_
                clear HCON
                rintro e w ⟨rfl, rfl⟩
                go_wp2
                go_ret2
                exact ⟨by rw [F.out, F2.out]; rfl, rfl⟩
          · have hE : ex (sfx s (m + 1)) = some0 (dg (sfx s (m + 1))) := by
              rw [sfx_cons s (m + 1) hm2]; simp only [ex]; rw [if_neg h]
            have t1 : ((s[m + 1].toNat : Int) == 43) = false := beq_eq_false_iff_ne.2 (by omega)
            have t3 : ((s[m + 1].toNat : Int) == 45) = false := beq_eq_false_iff_ne.2 (by omega)
            obtain ⟨r, hr⟩ : ∃ r : Nat, r = m + 1 + dg (sfx s (m + 1)) := ⟨_, rfl⟩
            have hcon := digits_at s (m + 1) ((m : Int) + 1) (r : Int) w (by omega) (by rw [hr]) hs (by omega)
            have HCON : Hid (Calls Try.prog 21 #[.string s, .int .i64 ((m : Int) + 1)] w fun e w' => e = .returned (.int .i64 (r : Int)) ∧ w' = w) := hcon
            clear hcon
            by_cases hd : dg (sfx s (m + 1)) = 0
            · have F : Hid (Ans s i = .tuple #[.int .i64 0, .bool false]) := L4.out.none (by rw [hE, hd]; rfl)
              have t2 : ((r : Int) == (m : Int) + 1) = true := beq_iff_eq.2 (by omega)
              clear h L4 hd hE hr
              go_wp2_with fail
              refine HCON.out.mono ?_
              clear HCON
              rintro e w ⟨rfl, rfl⟩
              go_wp2
              go_ret2
              exact ⟨by rw [F.out]; rfl, rfl⟩
            · have F : Hid (Ans s i = .tuple #[.int .i64 (((m + 1 : Nat) : Int) + ((dg (sfx s (m + 1)) : Nat) : Int)), .bool true]) := L4.out.some (by rw [hE]; unfold some0; rw [if_neg hd])
              have F2 : Hid (((m + 1 : Nat) : Int) + ((dg (sfx s (m + 1)) : Nat) : Int) = (r : Int)) := by show _ = _; omega
              have t2 : ((r : Int) == (m : Int) + 1) = false := beq_eq_false_iff_ne.2 (by omega)
              clear h L4 hd hE hr
              go_wp2_with fail
              refine HCON.out.mono ?_
              clear HCON
              rintro e w ⟨rfl, rfl⟩
              go_wp2
              go_ret2
              exact ⟨by rw [F.out, F2.out]; rfl, rfl⟩
end Go.Proofs.Qxb6617328a
