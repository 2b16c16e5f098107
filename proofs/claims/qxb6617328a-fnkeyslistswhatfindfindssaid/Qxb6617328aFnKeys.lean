import Derived.Test.Qxb6617328aKeys
import Derived.Test.Qxb6617328aGuard
namespace Go.Proofs.Qxb6617328a
open Go.RowKit

set_option maxHeartbeats 400000 in
theorem zzkeys_any (path : ByteArray) (o : Option Addr) (c : Nat) (ss : List ByteArray) (w : World) (hn : ss.length ≤ 65536) (r : Row w o ss) (hinc : 8 < ss.length → Inc ss) :
    Calls Try.prog 14 #[.string path, .slice o ss.length c] w fun e w' => Listed ss e w' ∧ Below w.heap.size w w' := by
  have hob := object_any path o c ss w hn r
  have HI : Hid (8 < ss.length → Inc ss) := hinc
  clear r hinc
  go_enter Try.func14, Try.ntmps14
  go_wp2_with fail
  refine hob.mono ?_
  clear hob
  rintro e w1 ⟨⟨p, g, rfl, ho⟩, hb1⟩
  have hk := keys_any p g path ss w1 ho hn HI.out
  have HB1 : Hid (Below w.heap.size w w1) := hb1
  clear ho hb1
  go_wp2_with fail
  refine hk.mono ?_
  clear hk
  rintro e w2 ⟨⟨g2, o2, c2, F, rfl, hc, hg⟩, hb2⟩
  have HB2 : Hid (Below w.heap.size w w2) := HB1.out.trans (hb2.mono HB1.out.size)
  have HC : Hid (g2 < w2.heap.size ∧ Cells w2 g2 o2 F) := hc
  have HG : Hid (Good ss F) := hg
  clear hc hg hb2 HB1
  go_wp2
  go_ret
  exact ⟨⟨g2, o2, c2, F, rfl, HC.out, HG.out⟩, HB2.out⟩

set_option maxHeartbeats 4000000 in
set_option maxRecDepth 100000 in
theorem walk5 (path : ByteArray) (pa : Option Addr) (da : Nat) (sa : List ByteArray) (w : World) (hp : path.size ≤ maxLen) (na : sa.length ≤ maxLen) (za : ∀ s ∈ sa, s.size ≤ maxLen) (ra : Came w pa da sa) :
    Calls Try.prog 5 #[.string path, .slice pa sa.length da] w fun e w' => e = .returned (.bool true) ∧ Below w.heap.size w w' := by
  have hby := bytes_keys path pa da sa w hp na za ra.row
  have hneq := neqnil
  have RA : Hid (Came w pa da sa) := ra
  clear na za ra hp
  go_enter Try.func5, Try.ntmps5
  go_wp2_with fail
  refine hby.mono ?_
  clear hby
  rintro e w ⟨⟨r, rfl, hsm⟩, rfl⟩
  cases r
  · go_wp2
    go_ret
    exact ⟨rfl, Below.refl _ _⟩
  obtain ⟨hsmall, hp⟩ := hsm rfl
  clear hsm
  have na := hsmall.1
  have HS0 : Hid (Small sa) := hsmall
  clear hsmall
  go_wp2_with fail
  refine (toobig_any path pa da sa ⟨#[]⟩ 1024 w hp (by show 0 ≤ _; exact Nat.zero_le _) HS0.out RA.out.row).mono ?_
  rintro e w ⟨⟨r, rfl, hle⟩, rfl⟩
  cases r
  case true =>
    go_wp2
    go_ret
    exact ⟨rfl, Below.refl _ _⟩
  have hle2 := hle rfl
  clear hle
  go_wp2_with fail
  refine (unsorted_any pa da sa w (by omega) RA.out.row).mono ?_
  rintro e wq ⟨⟨r, rfl, hinc⟩, hq⟩
  have HQ : Hid (Below w.heap.size w wq) := hq.below
  have RA1 : Hid (Came wq pa da sa) := by
    obtain ⟨n, rfl⟩ := hq
    exact RA.out
  clear hq RA
  cases r
  case true =>
    go_wp2
    go_ret
    exact ⟨rfl, HQ.out⟩
  have HI : Hid (8 < sa.length → Inc sa) := hinc rfl
  clear hinc
  go_upto_if 23 with fail
  go_cut [1] (fun v wx => ∃ o c, v = .slice o sa.length c ∧ Hid (Row wx o sa) ∧ Hid (Below wq.heap.size wq wx))
  case first =>
    rcases RA1.out with ⟨rfl, rfl, rfl⟩ | ⟨x, rfl, hrow⟩
    · go_wp2
      go_meet
      case rel => exact ⟨none, 0, rfl, .inl rfl, Below.refl _ _⟩
    · have HR : Hid (sa = [] ∨ ∃ b off, x = ⟨b, off, none⟩ ∧ b < wq.heap.size ∧ Cells wq b off sa) := hrow
      clear hrow
      obtain ⟨i, hi, hz0, hz1, hz2⟩ := info_parts Try.info9
      go_wp2_with (at_make; refine wpList_make_full _ rfl _ _ 25 rfl wq.heap.size 9 i _ 1 Try.underlying25 hi hz0 hz1 _ _ _ _ sa.length rfl rfl rfl rfl (by rw [hz2]; omega) (by unfold maxLen; omega) (Nat.le_refl _) ?_)
      intro w1 hown hgrow
      have hbw : Hid (Below wq.heap.size wq w1) := (Below.refl _ _).grown hgrow (Nat.le_refl _) (fun k h => by cases h)
      obtain ⟨cur, hg1, hcur⟩ := made_row hown
      have HG : Hid (w1.heap[wq.heap.size]? = some (.cells cur.toArray 9 (0, 0))) := hg1
      have HS : Hid (0 < (sa.map Value.string).length → ∃ ad, some x = some ad ∧ ∀ j v, (sa.map Value.string)[j]? = some v → w1.cell? (ad.add j) = some v) := src_any HR.out hbw.out
      clear hown hgrow hg1 hi hz0 hz1 hz2
      go_upto_region 9 with fail
      go_wp2_with (refine wpList_copy_splice rfl _ _ 25 25 rfl 9 Try.underlying25 Try.size9 _ _ _ _ _ _ rfl rfl wq.heap.size 0 cur 9 HG.out (sa.map Value.string) (by simp) (fun h => ⟨rfl, HS.out h⟩) (by simp; omega) (strings_oneCell sa) wq.heap.size wq hbw.out (Nat.le_refl _) ?_)
      intro w2 HG2 hb2
      have HB2 : Hid (Below wq.heap.size wq w2) := hb2
      clear hb2
      go_wp2
      go_meet
      case rel => exact ⟨_, _, rfl, .inr ⟨wq.heap.size, 0, rfl, lt_of_block HG2.out, cells_of_splice HG2.out⟩, HB2.out⟩
  case rest =>
    obtain ⟨oa, ca, rfl, hA, hBA⟩ := hcut
    obtain ⟨wA, rfl⟩ : ∃ x, x = wc := ⟨wc, rfl⟩
    have HW : Hid (Below w.heap.size w wA) := HQ.out.trans (hBA.out.mono HQ.out.size)
    clear HQ hBA RA1 HS0
    go_wp2_with fail
    refine (zzkeys_any path oa ca sa wA (by omega) hA.out HI.out).mono ?_
    rintro e w2 ⟨⟨g, og, c, F, rfl, ⟨hgl, hcf⟩, hgood⟩, hb2⟩
    have HW2 : Hid (Below w.heap.size w w2) := HW.out.trans (hb2.mono HW.out.size)
    have RA2 : Hid (Row w2 oa sa) := hA.out.below hb2
    have RF2 : Hid (Row w2 (some ⟨g, og, none⟩) F) := .inr ⟨g, og, rfl, hgl, hcf⟩
    have hlen := hgood.len
    have HG : Hid (Good sa F) := hgood
    clear hb2 hA HW hcf hgood
    have hlen' : ¬ (sa.length : Int) < (F.length : Int) := by omega
    go_wp2
    go_loopw [7] (fun i wr => ∃ k : Nat, (k < F.length ∨ k = 0) ∧ i = .int .i64 ((k : Int) + 1) ∧ Qt w2 wr) (fun i _ => F.length + 1 - (intOf i).toNat)
    case atStart => exact ⟨0, by omega, rfl, Qt.refl _⟩
    case round =>
      obtain ⟨i, hi, rfl, hq⟩ := hrel
      by_cases hig : i + 1 < F.length
      · have hig' : (i : Int) + 1 < (F.length : Int) := by omega
        have hig2 : (i : Int) < (F.length : Int) := by omega
        obtain ⟨b1, f1, e1, hc1⟩ := (Qt.row RF2.out hq).at (i := i) (by omega)
        obtain ⟨b2, f2, e2, hc2⟩ := (Qt.row RF2.out hq).at hig
        cases e1
        cases e2
        have hL : Op.bytesLess (at_ F i).toList (at_ F (i + 1)).toList = true := (less_iff _ _).2 (HG.out.inc i (i + 1) (by omega) hig)
        generalize at_ F i = p at *
        generalize at_ F (i + 1) = q at *
        go_wp2
        go_quiet (fail)
        go_wp2
        go_roundw
        case rel => exact ⟨i + 1, by omega, by go_num, hq.drewN _⟩
        case measure => simp [intOf]; omega
      · have hig' : ¬ (i : Int) + 1 < (F.length : Int) := by omega
        have HWr : Hid (Below w.heap.size w wr) := HW2.out.trans (hq.below.mono HW2.out.size)
        have RAr : Hid (Row wr oa sa) := Qt.row RA2.out hq
        have RFr : Hid (Row wr (some ⟨g, og, none⟩) F) := Qt.row RF2.out hq
        clear HW2 RA2 RF2 hq
        go_wp2
        go_loopw [8] (fun i wr => ∃ k : Nat, k ≤ F.length ∧ i = .int .i64 k ∧ Hid (Below w.heap.size w wr) ∧ Hid (Row wr oa sa) ∧ Hid (Row wr (some ⟨g, og, none⟩) F)) (fun i _ => F.length - (intOf i).toNat)
        case atStart => exact ⟨0, by omega, rfl, HWr.out, RAr.out, RFr.out⟩
        case round =>
          clear HWr RAr RFr
          obtain ⟨m, hm, rfl, HW3, RA3, RF3⟩ := hrel
          by_cases hmf : m < F.length
          · have hmf' : (m : Int) < (F.length : Int) := by omega
            obtain ⟨b1, f1, e1, hc1⟩ := RF3.out.at hmf
            cases e1
            have hix := index_any path oa ca sa (at_ F m) _ (by omega) RA3.out HI.out
            obtain ⟨x, hx⟩ : ∃ x, x = at_ F m := ⟨_, rfl⟩
            rw [← hx] at hc1 hix
            have HX : Hid (x = at_ F m) := hx
            clear hx
            go_wp2_with fail
            refine hix.mono ?_
            clear hix hc1
            rintro e w4 ⟨⟨r, rfl, hr⟩, hb4⟩
            have HW4 : Hid (Below w.heap.size w w4) := HW3.out.trans (hb4.mono HW3.out.size)
            have RA4 : Hid (Row w4 oa sa) := RA3.out.below hb4
            have RF4 : Hid (Row w4 (some ⟨g, og, none⟩) F) := RF3.out.below hb4
            clear hb4 HW3 RA3 RF3
            rcases hr with ⟨_, hno⟩ | ⟨j, rfl, hj, hk1, _⟩
            · obtain ⟨j, hj, e⟩ := HG.out.src (at_ F m) (at_mem hmf)
              rw [← HX.out] at e
              exact absurd e.symm (hno j hj)
            · have hj1 : ¬ (j : Int) < 0 := by omega
              have hj2 : ¬ (sa.length : Int) ≤ (j : Int) := by omega
              have hj3 : (j : Int) < (sa.length : Int) := by omega
              have hd1 : decide ((j : Int) < 0) = false := decide_eq_false hj1
              have hd2 : decide ((sa.length : Int) ≤ (j : Int)) = false := decide_eq_false hj2
              obtain ⟨b5, f5, rfl, hc5⟩ := RA4.out.at hj
              obtain ⟨b6, f6, e6, hc6⟩ := RF4.out.at hmf
              cases e6
              rw [hk1] at hc5
              rw [← HX.out] at hc6
              have ht : (x.toList == x.toList) = true := (eq_true_iff x x).2 rfl
              have ht2 : (x.toList != x.toList) = false := by rw [bne, ht]; rfl
              clear hk1
              go_wp2
              go_quiet (fail)
              go_wp2
              go_roundw
              case rel => exact ⟨m + 1, by omega, by go_num, below_drewN HW4.out _, Qt.row RA4.out ((Qt.refl _).drewN _), Qt.row RF4.out ((Qt.refl _).drewN _)⟩
              case measure => simp [intOf]; omega
          · have hmf' : ¬ (m : Int) < (F.length : Int) := by omega
            go_wp2
            go_loopw [10] (fun i wr => ∃ k : Nat, k ≤ sa.length ∧ i = .int .i64 k ∧ Hid (Below w.heap.size w wr) ∧ Hid (Row wr oa sa) ∧ Hid (Row wr (some ⟨g, og, none⟩) F)) (fun i _ => sa.length - (intOf i).toNat)
            case atStart => exact ⟨0, by omega, rfl, HW3.out, RA3.out, RF3.out⟩
            case round =>
              clear HW3 RA3 RF3
              obtain ⟨j, hj, rfl, HW3, RA3, RF3⟩ := hrel
              by_cases hjs : j < sa.length
              · have hjs' : (j : Int) < (sa.length : Int) := by omega
                obtain ⟨m0, hm0, he0⟩ := List.getElem_of_mem (HG.out.all j hjs)
                have he1 : at_ F m0 = at_ sa j := by rw [← he0]; simp [at_, List.getD, hm0]
                have HE : Hid (at_ F m0 = at_ sa j) := he1
                clear he0 he1
                go_wp2
                go_loopw [11, 12] (fun f i wr => ∃ t : Nat, t ≤ m0 ∧ i = .int .i64 t ∧ f = .bool false ∧ Hid (Below w.heap.size w wr) ∧ Hid (Row wr oa sa) ∧ Hid (Row wr (some ⟨g, og, none⟩) F)) (fun _ i _ => F.length - (intOf i).toNat)
                case atStart => exact ⟨0, by omega, rfl, rfl, HW3.out, RA3.out, RF3.out⟩
                case round =>
                  clear HW3 RA3 RF3
                  obtain ⟨t, ht, rfl, rfl, HW3, RA3, RF3⟩ := hrel
                  have htf : (t : Int) < (F.length : Int) := by omega
                  obtain ⟨b5, f5, rfl, hc5⟩ := RA3.out.at hjs
                  obtain ⟨b6, f6, e6, hc6⟩ := RF3.out.at (i := t) (by omega)
                  cases e6
                  have hE : Hid (at_ F t ≠ at_ sa j → ¬ t = m0) := by
                    rintro h rfl
                    exact h HE.out
                  clear HE
                  generalize at_ F t = x at *
                  generalize at_ sa j = y at *
                  by_cases hk : x = y
                  · have ht1 : (x.toList == y.toList) = true := (eq_true_iff x y).2 hk
                    clear hk hE
                    go_wp2
                    go_quiet (fail)
                    go_wp2
                    go_roundw
                    case rel => exact ⟨j + 1, by omega, by go_num, below_drewN HW3.out _, Qt.row RA3.out ((Qt.refl _).drewN _), Qt.row RF3.out ((Qt.refl _).drewN _)⟩
                    case measure => simp [intOf]; omega
                  · have ht1 : (x.toList == y.toList) = false := (eq_false_iff x y).2 hk
                    have hne : ¬ t = m0 := hE.out hk
                    clear hk hE
                    go_wp2
                    go_quiet (fail)
                    go_wp2
                    go_roundw
                    case rel => exact ⟨t + 1, by omega, by go_num, rfl, below_drewN HW3.out _, Qt.row RA3.out ((Qt.refl _).drewN _), Qt.row RF3.out ((Qt.refl _).drewN _)⟩
                    case measure => simp [intOf]; omega
              · have hjs' : ¬ (j : Int) < (sa.length : Int) := by omega
                go_wp2
                go_ret
                exact ⟨rfl, HW3.out⟩
end Go.Proofs.Qxb6617328a
