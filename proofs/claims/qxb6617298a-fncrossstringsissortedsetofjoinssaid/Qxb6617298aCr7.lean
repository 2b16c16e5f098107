import Derived.Test.Qxb6617298aCr6
namespace Go.Proofs.Qxb6617298a
open Go.RowKit

/-- The copy's source, where something is copied at all. -/
theorem src_any {w w1 : World} {x : Addr} {ss : List ByteArray} (h : ss = [] ∨ ∃ b off, x = ⟨b, off, none⟩ ∧ b < w.heap.size ∧ Cells w b off ss) (hb : Below w.heap.size w w1) :
    0 < (ss.map Value.string).length → ∃ ad, some x = some ad ∧ ∀ j v, (ss.map Value.string)[j]? = some v → w1.cell? (ad.add j) = some v := by
  intro h0
  rcases h with rfl | ⟨b, off, rfl, hl, hc⟩
  · simp at h0
  · exact ⟨_, rfl, src_cells hc hl hb⟩

theorem cell_new_empty (w : World) : (w.alloc (.cells #[.string ⟨#[]⟩] 9)).cell? ⟨w.heap.size, 0 + 0, none⟩ = some (.string (at_ [⟨#[]⟩] 0)) := by
  have := cell_one_new w (.string ⟨#[]⟩) 9 0 _ rfl
  rw [Addr.add_lit] at this
  exact this

theorem row_empty (w : World) : Row (w.alloc (.cells #[.string ⟨#[]⟩] 9)) (some ⟨w.heap.size, 0, none⟩) [⟨#[]⟩] := by
  refine ⟨by simp, fun s hs => ?_, .inr ⟨w.heap.size, 0, rfl, fun i hi => ?_⟩⟩
  · rw [List.mem_singleton] at hs
    rw [hs]
    show 0 ≤ _
    exact Nat.zero_le _
  · have : i = 0 := by simpa using hi
    subst this
    exact cell_new_empty w

set_option maxHeartbeats 4000000 in
set_option maxRecDepth 100000 in
theorem walk3 (pa : Option Addr) (da : Nat) (sa : List ByteArray) (pb : Option Addr) (db : Nat) (sb : List ByteArray) (w : World)
    (na : sa.length ≤ maxLen) (za : ∀ s ∈ sa, s.size ≤ maxLen) (ra : Came w pa da sa) (nb : sb.length ≤ maxLen) (zb : ∀ s ∈ sb, s.size ≤ maxLen) (rb : Came w pb db sb) :
    Calls Try.prog 3 #[.slice pa sa.length da, .slice pb sb.length db] w fun e w' => e = .returned (.bool true) ∧ Below w.heap.size w w' := by
  have hby := bytes_cross pa da sa pb db sb w na za ra.row nb zb rb.row
  have hneq := neqnil
  have heql := eqlnil
  have RA : Hid (Came w pa da sa) := ra
  have RB : Hid (Came w pb db sb) := rb
  clear na za nb zb ra rb
  go_enter Try.func3, Try.ntmps3
  go_wp2_with fail
  refine hby.mono ?_
  clear hby
  rintro e w ⟨⟨r, rfl, hsm⟩, rfl⟩
  cases r
  · go_wp2
    go_ret
    exact ⟨rfl, Below.refl _ _⟩
  obtain ⟨⟨na, za⟩, ⟨nb, zb⟩⟩ := hsm rfl
  clear hsm
  have ZA : Hid (∀ s ∈ sa, s.size ≤ 1048576) := za
  have ZB : Hid (∀ s ∈ sb, s.size ≤ 1048576) := zb
  have ZA' : Hid (∀ s ∈ sa, s.size ≤ 140737488355328) := fun s hs => Nat.le_trans (za s hs) (by omega)
  have ZB' : Hid (∀ s ∈ sb, s.size ≤ 140737488355328) := fun s hs => Nat.le_trans (zb s hs) (by omega)
  clear za zb
  by_cases ha4 : (4096 : Int) < (sa.length : Int)
  · go_wp2
    go_ret
    exact ⟨rfl, Below.refl _ _⟩
  by_cases hb4 : (4096 : Int) < (sb.length : Int)
  · go_wp2
    go_ret
    exact ⟨rfl, Below.refl _ _⟩
  go_wp2_with fail
  refine (spend_any 1048576 pa sa da w (by omega) (by omega) (by omega) ZA'.out RA.out.row).mono ?_
  rintro e w ⟨⟨r1, rfl, h10, h11, h12⟩, rfl⟩
  go_wp2_with fail
  refine (spend_any r1 pb sb db w (by omega) (by omega) (by omega) ZB'.out RB.out.row).mono ?_
  rintro e w ⟨⟨r2, rfl, h20, h21, h22⟩, rfl⟩
  by_cases hneg : r2 < 0
  · go_wp2
    go_ret
    exact ⟨rfl, Below.refl _ _⟩
  clear h10 h11 h12 h20 h21 h22 ZA' ZB'
  go_upto_if 27 with fail
  go_cut [0] (fun v wx => ∃ o c, v = .slice o sa.length c ∧ Hid (Row wx o sa) ∧ Hid (Below w.heap.size w wx))
  case first =>
    rcases RA.out with ⟨rfl, rfl, rfl⟩ | ⟨x, rfl, hrow⟩
    · go_wp2
      go_meet
      case rel => exact ⟨none, 0, rfl, ⟨Nat.zero_le _, fun _ h => by simp at h, .inl rfl⟩, Below.refl _ _⟩
    · have HR : Hid (sa = [] ∨ ∃ b off, x = ⟨b, off, none⟩ ∧ b < w.heap.size ∧ Cells w b off sa) := hrow
      clear hrow
      obtain ⟨i, hi, hz0, hz1, hz2⟩ := info_parts Try.info9
      go_wp2_with (at_make; refine wpList_make_full _ rfl _ _ 22 rfl w.heap.size 9 i _ 1 Try.underlying22 hi hz0 hz1 _ _ _ _ sa.length rfl rfl rfl rfl (by rw [hz2]; omega) (by unfold maxLen; omega) (Nat.le_refl _) ?_)
      intro w1 hown hgrow
      have hbw : Hid (Below w.heap.size w w1) := (Below.refl _ _).grown hgrow (Nat.le_refl _) (fun k h => by cases h)
      obtain ⟨cur, hg1, hcur⟩ := made_row hown
      have HG : Hid (w1.heap[w.heap.size]? = some (.cells cur.toArray 9 (0, 0))) := hg1
      have HS : Hid (0 < (sa.map Value.string).length → ∃ ad, some x = some ad ∧ ∀ j v, (sa.map Value.string)[j]? = some v → w1.cell? (ad.add j) = some v) := src_any HR.out hbw.out
      clear hown hgrow hg1 hi hz0 hz1 hz2
      go_upto_region 9 with fail
      go_wp2_with (refine wpList_copy_splice rfl _ _ 22 22 rfl 9 Try.underlying22 Try.size9 _ _ _ _ _ _ rfl rfl w.heap.size 0 cur 9 HG.out (sa.map Value.string) (by simp) (fun h => ⟨rfl, HS.out h⟩) (by simp; omega) (strings_oneCell sa) w.heap.size w hbw.out (Nat.le_refl _) ?_)
      intro w2 HG2 hb2
      have HB2 : Hid (Below w.heap.size w w2) := hb2
      clear hb2
      go_wp2
      go_meet
      case rel => exact ⟨_, _, rfl, ⟨by omega, ZA.out, .inr ⟨w.heap.size, 0, rfl, cells_of_splice HG2.out⟩⟩, HB2.out⟩
  case rest =>
    obtain ⟨oa, ca, rfl, hA, hBA⟩ := hcut
    obtain ⟨wA, rfl⟩ : ∃ x, x = wc := ⟨wc, rfl⟩
    have RB1 : Hid (Came wA pb db sb) := RB.out.below hBA.out
    clear RA RB
    go_upto_if 36 with fail
    go_cut [1] (fun v wx => ∃ o c, v = .slice o sb.length c ∧ Hid (Row wx o sb) ∧ Hid (Below wA.heap.size wA wx))
    case first =>
      rcases RB1.out with ⟨rfl, rfl, rfl⟩ | ⟨x, rfl, hrow⟩
      · go_wp2
        go_meet
        case rel => exact ⟨none, 0, rfl, ⟨Nat.zero_le _, fun _ h => by simp at h, .inl rfl⟩, Below.refl _ _⟩
      · have HR : Hid (sb = [] ∨ ∃ b off, x = ⟨b, off, none⟩ ∧ b < wA.heap.size ∧ Cells wA b off sb) := hrow
        clear hrow
        obtain ⟨i, hi, hz0, hz1, hz2⟩ := info_parts Try.info9
        go_wp2_with (at_make; refine wpList_make_full _ rfl _ _ 22 rfl wA.heap.size 9 i _ 1 Try.underlying22 hi hz0 hz1 _ _ _ _ sb.length rfl rfl rfl rfl (by rw [hz2]; omega) (by unfold maxLen; omega) (Nat.le_refl _) ?_)
        intro w1 hown hgrow
        have hbw : Hid (Below wA.heap.size wA w1) := (Below.refl _ _).grown hgrow (Nat.le_refl _) (fun k h => by cases h)
        obtain ⟨cur, hg1, hcur⟩ := made_row hown
        have HG : Hid (w1.heap[wA.heap.size]? = some (.cells cur.toArray 9 (0, 0))) := hg1
        have HS : Hid (0 < (sb.map Value.string).length → ∃ ad, some x = some ad ∧ ∀ j v, (sb.map Value.string)[j]? = some v → w1.cell? (ad.add j) = some v) := src_any HR.out hbw.out
        clear hown hgrow hg1 hi hz0 hz1 hz2
        go_upto_region 13 with fail
        go_wp2_with (refine wpList_copy_splice rfl _ _ 22 22 rfl 9 Try.underlying22 Try.size9 _ _ _ _ _ _ rfl rfl wA.heap.size 0 cur 9 HG.out (sb.map Value.string) (by simp) (fun h => ⟨rfl, HS.out h⟩) (by simp; omega) (strings_oneCell sb) wA.heap.size wA hbw.out (Nat.le_refl _) ?_)
        intro w2 HG2 hb2
        have HB2 : Hid (Below wA.heap.size wA w2) := hb2
        clear hb2
        go_wp2
        go_meet
        case rel => exact ⟨_, _, rfl, ⟨by omega, ZB.out, .inr ⟨wA.heap.size, 0, rfl, cells_of_splice HG2.out⟩⟩, HB2.out⟩
    case rest =>
      obtain ⟨ob, cb, rfl, hB, hBB⟩ := hcut
      obtain ⟨wB, rfl⟩ : ∃ x, x = wc := ⟨wc, rfl⟩
      clear RB1
      have NA : Hid (Row wB oa sa) := hA.out.later hBB.out
      have NB : Hid (Row wB ob sb) := hB.out
      have HW : Hid (Below w.heap.size w wB) := hBA.out.trans (hBB.out.mono hBA.out.size)
      clear hA hB hBA hBB
      go_wp2_with fail
      refine (zzcross_any oa ca sa ob cb sb wB NA.out NB.out (by omega) (by omega)).mono ?_
      rintro e w1 ⟨hr, hb1⟩
      have HB1 : Hid (Below wB.heap.size wB w1) := hb1
      have HW1 : Hid (Below w.heap.size w w1) := HW.out.trans (hb1.mono HW.out.size)
      have NA1 : Hid (Row w1 oa sa) := NA.out.later hb1
      have NB1 : Hid (Row w1 ob sb) := NB.out.later hb1
      clear NA NB HW hb1
      obtain ⟨P, hP⟩ : ∃ P, P = sa.length * sb.length := ⟨_, rfl⟩
      have hmul : (sa.length : Int) * (sb.length : Int) = (P : Int) := by rw [hP]; exact (Int.natCast_mul _ _).symm
      have hPle : P ≤ 16777216 := by rw [hP]; exact Nat.mul_le_mul (show sa.length ≤ 4096 by omega) (show sb.length ≤ 4096 by omega)
      unfold Result at hr
      rw [← hP] at hr
      have HP : Hid (P = sa.length * sb.length) := hP
      clear hP
      have hma := maxl_le ZA.out sa.length
      have hmb := maxl_le ZB.out sb.length
      have hla := fun W (h : Row W oa sa) => longest_any oa ca sa W h
      have hlb := fun W (h : Row W ob sb) => longest_any ob cb sb W h
      have HLA : Hid (∀ W, Row W oa sa → Calls Try.prog 8 #[.slice oa sa.length ca] W fun e w' => e = .returned (.int .i64 (maxl sa sa.length)) ∧ w' = W) := hla
      have HLB : Hid (∀ W, Row W ob sb → Calls Try.prog 8 #[.slice ob sb.length cb] W fun e w' => e = .returned (.int .i64 (maxl sb sb.length)) ∧ w' = W) := hlb
      clear hla hlb
      rcases hr with ⟨hbad, rfl⟩ | ⟨⟨hgood, hfit⟩, g, c, rfl, hg, hcells⟩
      · by_cases hbig : 64 < P
        · have hbig' : (64 : Int) < (P : Int) := by omega
          clear hbad
          go_wp2
          go_ret
          exact ⟨rfl, HW1.out⟩
        · have hbig' : ¬ (64 : Int) < (P : Int) := by omega
          obtain ⟨h1, h2, h3⟩ := not_fits (hbad.resolve_left hbig)
          clear hbad
          generalize maxl sa sa.length = ma at *
          generalize maxl sb sb.length = mb at *
          have h1' : (0 : Int) < (sa.length : Int) := by omega
          have h2' : (0 : Int) < (sb.length : Int) := by omega
          have h3' : (256 : Int) < (ma : Int) + (mb : Int) := by omega
          go_wp2_with fail
          refine (HLA.out _ NA1.out).mono ?_
          rintro e w1 ⟨rfl, rfl⟩
          go_wp2_with fail
          refine (HLB.out _ NB1.out).mono ?_
          rintro e w1 ⟨rfl, rfl⟩
          go_wp2
          go_ret
          exact ⟨rfl, HW1.out⟩
      · have hbig' : ¬ (64 : Int) < (P : Int) := by omega
        have HF : Hid (Fits sa sb) := hfit
        have HC : Hid (Cells w1 g 0 (gotOf sa sb)) := hcells
        have hgl := got_length sa sb
        rw [← HP.out] at hgl
        clear hfit hcells
        go_upto_region 16 with fail
        go_cut [8] (fun v wx => v = .bool false ∧ w1 = wx)
        case first =>
          by_cases h1 : sa.length = 0
          · have h1' : ¬ (0 : Int) < (sa.length : Int) := by omega
            clear h1
            go_wp2
            go_meet
            case rel => exact ⟨congrArg Value.bool (decide_eq_false (by omega)), rfl⟩
          by_cases h2 : sb.length = 0
          · have h1' : (0 : Int) < (sa.length : Int) := by omega
            have h2' : ¬ (0 : Int) < (sb.length : Int) := by omega
            clear h1 h2
            go_wp2
            go_meet
            case rel => exact ⟨congrArg Value.bool (decide_eq_false (by omega)), rfl⟩
          have h3 := fits_max HF.out (by omega) (by omega)
          have h1' : (0 : Int) < (sa.length : Int) := by omega
          have h2' : (0 : Int) < (sb.length : Int) := by omega
          clear h1 h2
          generalize maxl sa sa.length = ma at *
          generalize maxl sb sb.length = mb at *
          have h3' : ¬ (256 : Int) < (ma : Int) + (mb : Int) := by omega
          go_wp2_with fail
          refine (HLA.out _ NA1.out).mono ?_
          rintro e w1 ⟨rfl, rfl⟩
          go_wp2_with fail
          refine (HLB.out _ NB1.out).mono ?_
          rintro e w1 ⟨rfl, rfl⟩
          go_wp2
          go_meet
          case rel => exact ⟨congrArg Value.bool (by rw [decide_eq_false (show ¬ (64 : Int) < (P : Int) by omega), decide_eq_false (show ¬ (256 : Int) < (ma : Int) + (mb : Int) by omega)]; rfl), rfl⟩
        case rest =>
          obtain ⟨rfl, rfl⟩ := hcut
          have hal : Below w1.heap.size w1 (w1.alloc (.cells #[.string ⟨#[]⟩] 9)) := (Below.refl _ _).alloc (Nat.le_refl _) _
          have hgr : Row w1 (some ⟨g, 0, none⟩) (gotOf sa sb) := ⟨by omega, got_small HF.out, .inr ⟨g, 0, rfl, HC.out⟩⟩
          have hcon := sorted_yes g 0 c (gotOf sa sb) oa ca sa ob cb sb (some ⟨w1.heap.size, 0, none⟩) 1 [⟨#[]⟩] (w1.alloc (.cells #[.string ⟨#[]⟩] 9)) (hgr.later hal) (NA1.out.later hal) (NB1.out.later hal)
            (row_empty w1)
            (fun i hi => got_sorted sa sb i hi)
            (fun m hm => by
              obtain ⟨i, j, hi, hj, e⟩ := (mem_gotOf sa sb _).1 (at_mem hm)
              exact ⟨i, j, 0, hi, hj, by simp, by rw [e]; exact isJoin_mk _ _ _ rfl⟩)
            (fun i j k hi hj hk => by
              have hm := (mem_gotOf sa sb _).2 ⟨i, j, hi, hj, rfl⟩
              obtain ⟨m, hm, e⟩ := List.getElem_of_mem hm
              refine ⟨m, hm, ?_⟩
              have e1 : at_ (gotOf sa sb) m = at_ sa i ++ at_ sb j := by rw [← e]; simp [at_, List.getD, hm]
              have e2 : k = 0 := by simpa using hk
              rw [e1, e2]
              exact isJoin_mk _ _ _ rfl)
          have HW2 : Hid (Below w.heap.size w (w1.alloc (.cells #[.string ⟨#[]⟩] 9))) := HW1.out.trans (hal.mono HW1.out.size)
          have HCON : Hid (Calls Try.prog 9 #[.slice (some ⟨g, 0, none⟩) (gotOf sa sb).length c, .slice oa sa.length ca, .slice ob sb.length cb, .slice (some ⟨w1.heap.size, 0, none⟩) 1 1] (w1.alloc (.cells #[.string ⟨#[]⟩] 9)) fun e w' => e = .returned (.bool true) ∧ Qt (w1.alloc (.cells #[.string ⟨#[]⟩] 9)) w') := hcon
          clear hcon hal hgr HC HF NA1 NB1 HLA HLB
          go_wp2_with fail
          refine HCON.out.mono ?_
          rintro e w2 ⟨rfl, n, rfl⟩
          go_wp2
          go_ret
          exact ⟨rfl, below_drewN HW2.out n⟩
end Go.Proofs.Qxb6617298a
