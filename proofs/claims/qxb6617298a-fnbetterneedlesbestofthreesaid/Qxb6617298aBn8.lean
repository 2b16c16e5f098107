import Derived.Test.Qxb6617298aCp
import Derived.Test.Qxb6617298aBnP
namespace Go.Proofs.Qxb6617298a
open Go.RowKit

theorem IsNd.sel {w : World} {u v : Value} {k l : Option (Nat × Nat)} (h1 : IsNd w u k) (h2 : IsNd w v l) {b : Bool} : IsNd w (Qxb6617298a.sel b u v) (Qxb6617298a.sel b k l) := by
  cases b
  · exact h2
  · exact h1

/-- Not nil, and with no element. -/
def Emp (o : Option Addr) (ss : List ByteArray) : Prop := o.isNone = false ∧ ((ss.length : Int) == 0) = true
/-- nil, or with an element. -/
def Fit (o : Option Addr) (ss : List ByteArray) : Prop := o.isNone = true ∨ (o.isNone = false ∧ ((ss.length : Int) == 0) = false)
theorem emp_fit (o : Option Addr) (ss : List ByteArray) : Emp o ss ∨ Fit o ss := by
  unfold Emp Fit
  cases o.isNone <;> cases ((ss.length : Int) == 0) <;> simp
theorem emp3 (oa : Option Addr) (sa : List ByteArray) (ob : Option Addr) (sb : List ByteArray) (oc : Option Addr) (sc : List ByteArray) :
    (Emp oa sa ∨ (Fit oa sa ∧ Emp ob sb) ∨ (Fit oa sa ∧ Fit ob sb ∧ Emp oc sc)) ∨ (Fit oa sa ∧ Fit ob sb ∧ Fit oc sc) := by
  rcases emp_fit oa sa with h1 | h1
  · exact .inl (.inl h1)
  rcases emp_fit ob sb with h2 | h2
  · exact .inl (.inr (.inl ⟨h1, h2⟩))
  rcases emp_fit oc sc with h3 | h3
  · exact .inl (.inr (.inr ⟨h1, h2, h3⟩))
  · exact .inr ⟨h1, h2, h3⟩

set_option maxHeartbeats 4000000 in
set_option maxRecDepth 100000 in
theorem walk1 (oa : Option Addr) (ca : Nat) (sa : List ByteArray) (la : Int) (ob : Option Addr) (cb : Nat) (sb : List ByteArray) (lb : Int) (oc : Option Addr) (cc : Nat) (sc : List ByteArray) (lc : Int) (w : World)
    (na : sa.length ≤ maxLen) (za : ∀ s ∈ sa, s.size ≤ maxLen) (ra : Came w oa ca sa) (nb : sb.length ≤ maxLen) (zb : ∀ s ∈ sb, s.size ≤ maxLen) (rb : Came w ob cb sb) (nc : sc.length ≤ maxLen) (zc : ∀ s ∈ sc, s.size ≤ maxLen) (rc : Came w oc cc sc) :
    Calls Try.prog 4 #[.slice oa sa.length ca, .int .i64 la, .slice ob sb.length cb, .int .i64 lb, .slice oc sc.length cc, .int .i64 lc] w fun e w' => e = .returned (.bool true) ∧ Below w.heap.size w w' := by
  have hby := bytes_better oa ca sa ob cb sb oc cc sc la lb lc w na za ra.row nb zb rb.row nc zc rc.row
  have hneq := neqnil
  have heql := eqlnil
  have RA : Hid (Came w oa ca sa) := ra
  have RB : Hid (Came w ob cb sb) := rb
  have RC : Hid (Came w oc cc sc) := rc
  clear na za nb zb nc zc ra rb rc
  go_enter Try.func4, Try.ntmps4
  go_wp2_with fail
  refine hby.mono ?_
  clear hby
  rintro e w ⟨⟨r, rfl, hsm⟩, rfl⟩
  cases r
  · go_wp2
    go_ret
    exact ⟨rfl, Below.refl _ _⟩
  obtain ⟨⟨na, za⟩, ⟨nb, zb⟩, ⟨nc, zc⟩⟩ := hsm rfl
  clear hsm
  have ZA : Hid (∀ s ∈ sa, s.size ≤ 140737488355328) := fun s hs => Nat.le_trans (za s hs) (by omega)
  have ZB : Hid (∀ s ∈ sb, s.size ≤ 140737488355328) := fun s hs => Nat.le_trans (zb s hs) (by omega)
  have ZC : Hid (∀ s ∈ sc, s.size ≤ 140737488355328) := fun s hs => Nat.le_trans (zc s hs) (by omega)
  clear za zb zc
  go_wp2_with fail
  refine (spend_any 1048576 oa sa ca w (by omega) (by omega) (by omega) ZA.out RA.out.row).mono ?_
  rintro e w ⟨⟨r1, rfl, h10, h11, h12⟩, rfl⟩
  go_wp2_with fail
  refine (spend_any r1 ob sb cb w (by omega) (by omega) (by omega) ZB.out RB.out.row).mono ?_
  rintro e w ⟨⟨r2, rfl, h20, h21, h22⟩, rfl⟩
  go_wp2_with fail
  refine (spend_any r2 oc sc cc w (by omega) (by omega) (by omega) ZC.out RC.out.row).mono ?_
  rintro e w ⟨⟨r3, rfl, h30, h31, h32⟩, rfl⟩
  by_cases hneg : r3 < 0
  · go_wp2
    go_ret
    exact ⟨rfl, Below.refl _ _⟩
  go_upto_region 5 with fail
  rcases emp3 oa sa ob sb oc sc with hE | ⟨ea, eb, ec⟩
  · go_cut [66] (fun s wx => s = .bool true ∧ w = wx)
    case first =>
      rcases hE with ⟨e1, f1⟩ | ⟨e1 | ⟨e1, f1⟩, e2, f2⟩ | ⟨e1 | ⟨e1, f1⟩, e2 | ⟨e2, f2⟩, e3, f3⟩
      all_goals (go_wp2; go_meet; case rel => exact ⟨rfl, rfl⟩)
    case rest =>
      clear hE
      obtain ⟨rfl, rfl⟩ := hcut
      go_wp2
      go_ret
      exact ⟨rfl, Below.refl _ _⟩
  go_cut [66] (fun s wx => s = .bool false ∧ w = wx)
  case first =>
    rcases ea with ea | ⟨ea, fa⟩ <;> rcases eb with eb | ⟨eb, fb⟩ <;> rcases ec with ec | ⟨ec, fc⟩
    all_goals (go_wp2; go_meet; case rel => exact ⟨rfl, rfl⟩)
  case rest =>
    obtain ⟨rfl, rfl⟩ := hcut
    have hl1 : 16 * (sa.length : Int) ≤ 1048576 := by omega
    have hl2 : 16 * (sb.length : Int) ≤ 1048576 := by omega
    have hl3 : 16 * (sc.length : Int) ≤ 1048576 := by omega
    clear h10 h11 h12 h20 h21 h22 h30 h31 h32 hneg
    have EA : Hid (Fit oa sa) := ea
    have EB : Hid (Fit ob sb) := eb
    have EC : Hid (Fit oc sc) := ec
    clear ea eb ec
    go_upto_if 68 with fail
    go_cut [0] (fun v wx => ∃ k, Hid (IsNd wx v k) ∧ Hid (Below w.heap.size w wx))
    case first =>
      rcases RA.out with ⟨rfl, rfl, rfl⟩ | ⟨x, rfl, hrow⟩
      · go_wp2
        go_meet
        case rel => exact ⟨none, .inl ⟨rfl, rfl⟩, Below.refl _ _⟩
      · have hpos : 0 < sa.length := by
          rcases EA.out with h | ⟨_, h⟩
          · cases h
          · have := beq_eq_false_iff_ne.1 h; omega
        obtain ⟨b, off, rfl, hbl, hcl⟩ : ∃ b off, x = ⟨b, off, none⟩ ∧ b < w.heap.size ∧ Cells w b off sa := by
          rcases hrow with h | h
          · rw [h] at hpos; simp at hpos
          · exact h
        have HC : Hid (Cells w b off sa) := hcl
        clear hrow hcl
        obtain ⟨i, hi, hz0, hz1, hz2⟩ := info_parts Try.info9
        go_wp2_with (at_make; refine wpList_make_full _ rfl _ _ 22 rfl w.heap.size 9 i _ 1 Try.underlying22 hi hz0 hz1 _ _ _ _ sa.length rfl rfl rfl rfl (by rw [hz2]; omega) (by unfold maxLen; omega) (Nat.le_refl _) ?_)
        intro w1 hown hgrow
        have hbw : Hid (Below w.heap.size w w1) := (Below.refl _ _).grown hgrow (Nat.le_refl _) (fun k h => by cases h)
        obtain ⟨cur, hg1, hcur⟩ := made_row hown
        have HG : Hid (w1.heap[w.heap.size]? = some (.cells cur.toArray 9 (0, 0))) := hg1
        clear hown hgrow hg1 hi hz0 hz1 hz2
        go_upto_region 9 with fail
        go_wp2_with (refine wpList_copy_splice rfl _ _ 22 22 rfl 9 Try.underlying22 Try.size9 _ _ _ _ _ _ rfl rfl w.heap.size 0 cur 9 HG.out (sa.map Value.string) (by simp) (fun _ => ⟨rfl, _, rfl, src_cells HC.out hbl hbw.out⟩) (by simp; omega) (strings_oneCell sa) w.heap.size w hbw.out (Nat.le_refl _) ?_)
        intro w2 HG2 hb2
        have HB2 : Hid (Below w.heap.size w w2) := hb2
        clear hb2
        go_wp2
        go_meet
        case rel => exact ⟨_, .inr ⟨w.heap.size, 0, sa.length, sa, rfl, hpos, by omega, ZA.out, rfl, lt_of_block HG2.out, cells_of_splice HG2.out⟩, HB2.out⟩
    case rest =>
      obtain ⟨ka, hA, hBA⟩ := hcut
      obtain ⟨wA, rfl⟩ : ∃ x, x = wc := ⟨wc, rfl⟩
      have RB1 : Hid (Came wA ob cb sb) := RB.out.below hBA.out
      have RC1 : Hid (Came wA oc cc sc) := RC.out.below hBA.out
      clear RA RB RC
      go_upto_if 77 with fail
      go_cut [2] (fun v wx => ∃ k, Hid (IsNd wx v k) ∧ Hid (Below wA.heap.size wA wx))
      case first =>
        rcases RB1.out with ⟨rfl, rfl, rfl⟩ | ⟨x, rfl, hrow⟩
        · go_wp2
          go_meet
          case rel => exact ⟨none, .inl ⟨rfl, rfl⟩, Below.refl _ _⟩
        · have hpos : 0 < sb.length := by
            rcases EB.out with h | ⟨_, h⟩
            · cases h
            · have := beq_eq_false_iff_ne.1 h; omega
          obtain ⟨b, off, rfl, hbl, hcl⟩ : ∃ b off, x = ⟨b, off, none⟩ ∧ b < wA.heap.size ∧ Cells wA b off sb := by
            rcases hrow with h | h
            · rw [h] at hpos; simp at hpos
            · exact h
          have HC : Hid (Cells wA b off sb) := hcl
          clear hrow hcl
          obtain ⟨i, hi, hz0, hz1, hz2⟩ := info_parts Try.info9
          go_wp2_with (at_make; refine wpList_make_full _ rfl _ _ 22 rfl wA.heap.size 9 i _ 1 Try.underlying22 hi hz0 hz1 _ _ _ _ sb.length rfl rfl rfl rfl (by rw [hz2]; omega) (by unfold maxLen; omega) (Nat.le_refl _) ?_)
          intro w1 hown hgrow
          have hbw : Hid (Below wA.heap.size wA w1) := (Below.refl _ _).grown hgrow (Nat.le_refl _) (fun k h => by cases h)
          obtain ⟨cur, hg1, hcur⟩ := made_row hown
          have HG : Hid (w1.heap[wA.heap.size]? = some (.cells cur.toArray 9 (0, 0))) := hg1
          clear hown hgrow hg1 hi hz0 hz1 hz2
          go_upto_region 13 with fail
          go_wp2_with (refine wpList_copy_splice rfl _ _ 22 22 rfl 9 Try.underlying22 Try.size9 _ _ _ _ _ _ rfl rfl wA.heap.size 0 cur 9 HG.out (sb.map Value.string) (by simp) (fun _ => ⟨rfl, _, rfl, src_cells HC.out hbl hbw.out⟩) (by simp; omega) (strings_oneCell sb) wA.heap.size wA hbw.out (Nat.le_refl _) ?_)
          intro w2 HG2 hb2
          have HB2 : Hid (Below wA.heap.size wA w2) := hb2
          clear hb2
          go_wp2
          go_meet
          case rel => exact ⟨_, .inr ⟨wA.heap.size, 0, sb.length, sb, rfl, hpos, by omega, ZB.out, rfl, lt_of_block HG2.out, cells_of_splice HG2.out⟩, HB2.out⟩
      case rest =>
        obtain ⟨kb, hB, hBB⟩ := hcut
        obtain ⟨wB, rfl⟩ : ∃ x, x = wc := ⟨wc, rfl⟩
        have RC2 : Hid (Came wB oc cc sc) := RC1.out.below hBB.out
        clear RB1 RC1
        go_upto_if 86 with fail
        go_cut [4] (fun v wx => ∃ k, Hid (IsNd wx v k) ∧ Hid (Below wB.heap.size wB wx))
        case first =>
          rcases RC2.out with ⟨rfl, rfl, rfl⟩ | ⟨x, rfl, hrow⟩
          · go_wp2
            go_meet
            case rel => exact ⟨none, .inl ⟨rfl, rfl⟩, Below.refl _ _⟩
          · have hpos : 0 < sc.length := by
              rcases EC.out with h | ⟨_, h⟩
              · cases h
              · have := beq_eq_false_iff_ne.1 h; omega
            obtain ⟨b, off, rfl, hbl, hcl⟩ : ∃ b off, x = ⟨b, off, none⟩ ∧ b < wB.heap.size ∧ Cells wB b off sc := by
              rcases hrow with h | h
              · rw [h] at hpos; simp at hpos
              · exact h
            have HC : Hid (Cells wB b off sc) := hcl
            clear hrow hcl
            obtain ⟨i, hi, hz0, hz1, hz2⟩ := info_parts Try.info9
            go_wp2_with (at_make; refine wpList_make_full _ rfl _ _ 22 rfl wB.heap.size 9 i _ 1 Try.underlying22 hi hz0 hz1 _ _ _ _ sc.length rfl rfl rfl rfl (by rw [hz2]; omega) (by unfold maxLen; omega) (Nat.le_refl _) ?_)
            intro w1 hown hgrow
            have hbw : Hid (Below wB.heap.size wB w1) := (Below.refl _ _).grown hgrow (Nat.le_refl _) (fun k h => by cases h)
            obtain ⟨cur, hg1, hcur⟩ := made_row hown
            have HG : Hid (w1.heap[wB.heap.size]? = some (.cells cur.toArray 9 (0, 0))) := hg1
            clear hown hgrow hg1 hi hz0 hz1 hz2
            go_upto_region 17 with fail
            go_wp2_with (refine wpList_copy_splice rfl _ _ 22 22 rfl 9 Try.underlying22 Try.size9 _ _ _ _ _ _ rfl rfl wB.heap.size 0 cur 9 HG.out (sc.map Value.string) (by simp) (fun _ => ⟨rfl, _, rfl, src_cells HC.out hbl hbw.out⟩) (by simp; omega) (strings_oneCell sc) wB.heap.size wB hbw.out (Nat.le_refl _) ?_)
            intro w2 HG2 hb2
            have HB2 : Hid (Below wB.heap.size wB w2) := hb2
            clear hb2
            go_wp2
            go_meet
            case rel => exact ⟨_, .inr ⟨wB.heap.size, 0, sc.length, sc, rfl, hpos, by omega, ZC.out, rfl, lt_of_block HG2.out, cells_of_splice HG2.out⟩, HB2.out⟩
        case rest =>
          obtain ⟨kc, hC, hBC⟩ := hcut
          obtain ⟨wC, rfl⟩ : ∃ x, x = wc := ⟨wc, rfl⟩
          clear RC2
          have NA : Hid (IsNd wC u0 ka) := (hA.out.below hBB.out).below hBC.out
          have NB : Hid (IsNd wC u2 kb) := hB.out.below hBC.out
          have NC : Hid (IsNd wC u4 kc) := hC.out
          have HW : Hid (Below w.heap.size w wC) := (hBA.out.trans (hBB.out.mono hBA.out.size)).trans (hBC.out.mono (Nat.le_trans hBA.out.size hBB.out.size))
          clear hA hB hC hBA hBB hBC ZA ZB ZC EA EB EC hl1 hl2 hl3 na nb nc
          go_wp2_with fail
          refine (zzbetter_any u0 u2 la lb ka kb wC NA.out NB.out).mono ?_
          rintro e w1 ⟨rfl, hb1⟩
          have HB1 : Hid (Below wC.heap.size wC w1) := hb1
          clear hb1
          have N1 : Hid (IsNd w1 (sel (better ka kb) u0 u2) (sel (better ka kb) ka kb)) := (NA.out.sel NB.out).below HB1.out
          have NA1 : Hid (IsNd w1 u0 ka) := NA.out.below HB1.out
          have NB1 : Hid (IsNd w1 u2 kb) := NB.out.below HB1.out
          have NC1 : Hid (IsNd w1 u4 kc) := NC.out.below HB1.out
          have HW1 : Hid (Below w.heap.size w w1) := HW.out.trans (HB1.out.mono HW.out.size)
          have PL : Hid ((scanTo ka kb kc 3).1 ≤ 2 ∧ Pick ka kb kc (scanTo ka kb kc 3).1) := pick_law ka kb kc
          clear NA NB NC HW HB1
          obtain ⟨v1, ev1⟩ : ∃ v, v = sel (better ka kb) u0 u2 := ⟨_, rfl⟩
          obtain ⟨l1, el1⟩ : ∃ v, v = sel (better ka kb) la lb := ⟨_, rfl⟩
          rw [← ev1, ← el1]
          rw [← ev1] at N1
          have EV1 : Hid (v1 = sel (better ka kb) u0 u2) := ev1
          have EL1 : Hid (l1 = sel (better ka kb) la lb) := el1
          clear ev1 el1
          go_wp2_with fail
          refine (zzbetter_any v1 u4 l1 lc (sel (better ka kb) ka kb) kc w1 N1.out NC1.out).mono ?_
          rintro e w2 ⟨rfl, hb⟩
          have HB2 : Hid (Below w1.heap.size w1 w2) := hb
          clear hb
          have NA2 : Hid (IsNd w2 u0 ka) := NA1.out.below HB2.out
          have NB2 : Hid (IsNd w2 u2 kb) := NB1.out.below HB2.out
          have NC2 : Hid (IsNd w2 u4 kc) := NC1.out.below HB2.out
          have HW2 : Hid (Below w.heap.size w w2) := HW1.out.trans (HB2.out.mono HW1.out.size)
          clear N1 NA1 NB1 NC1 HW1 HB2
          obtain ⟨v2, ev2⟩ : ∃ v, v = sel (better (sel (better ka kb) ka kb) kc) v1 u4 := ⟨_, rfl⟩
          obtain ⟨l2, el2⟩ : ∃ v, v = sel (better (sel (better ka kb) ka kb) kc) l1 lc := ⟨_, rfl⟩
          rw [← ev2, ← el2]
          have EV2 : Hid (v2 = sel (better (sel (better ka kb) ka kb) kc) (sel (better ka kb) u0 u2) u4) := by rw [← EV1.out]; exact ev2
          have EL2 : Hid (l2 = sel (better (sel (better ka kb) ka kb) kc) (sel (better ka kb) la lb) lc) := by rw [← EL1.out]; exact el2
          clear ev2 el2 EV1 EL1
          go_wp2_with fail
          refine (zzbetter_any u2 u4 lb lc kb kc w2 NB2.out NC2.out).mono ?_
          rintro e w3 ⟨rfl, hb⟩
          have HB3 : Hid (Below w2.heap.size w2 w3) := hb
          clear hb
          have N3 : Hid (IsNd w3 (sel (better kb kc) u2 u4) (sel (better kb kc) kb kc)) := (NB2.out.sel NC2.out).below HB3.out
          have NA3 : Hid (IsNd w3 u0 ka) := NA2.out.below HB3.out
          have NB3 : Hid (IsNd w3 u2 kb) := NB2.out.below HB3.out
          have NC3 : Hid (IsNd w3 u4 kc) := NC2.out.below HB3.out
          have HW3 : Hid (Below w.heap.size w w3) := HW2.out.trans (HB3.out.mono HW2.out.size)
          clear NA2 NB2 NC2 HW2 HB3
          obtain ⟨v3, ev3⟩ : ∃ v, v = sel (better kb kc) u2 u4 := ⟨_, rfl⟩
          obtain ⟨l3, el3⟩ : ∃ v, v = sel (better kb kc) lb lc := ⟨_, rfl⟩
          rw [← ev3, ← el3]
          rw [← ev3] at N3
          have EV3 : Hid (v3 = sel (better kb kc) u2 u4) := ev3
          have EL3 : Hid (l3 = sel (better kb kc) lb lc) := el3
          clear ev3 el3
          go_wp2_with fail
          refine (zzbetter_any u0 v3 la l3 ka (sel (better kb kc) kb kc) w3 NA3.out N3.out).mono ?_
          rintro e w4 ⟨rfl, hb⟩
          have HB4 : Hid (Below w3.heap.size w3 w4) := hb
          clear hb
          have NA4 : Hid (IsNd w4 u0 ka) := NA3.out.below HB4.out
          have NB4 : Hid (IsNd w4 u2 kb) := NB3.out.below HB4.out
          have NC4 : Hid (IsNd w4 u4 kc) := NC3.out.below HB4.out
          have HW4 : Hid (Below w.heap.size w w4) := HW3.out.trans (HB4.out.mono HW3.out.size)
          clear N3 NA3 NB3 NC3 HW3 HB4
          obtain ⟨v4, ev4⟩ : ∃ v, v = sel (better ka (sel (better kb kc) kb kc)) u0 v3 := ⟨_, rfl⟩
          obtain ⟨l4, el4⟩ : ∃ v, v = sel (better ka (sel (better kb kc) kb kc)) la l3 := ⟨_, rfl⟩
          rw [← ev4, ← el4]
          have EV4 : Hid (v4 = sel (better ka (sel (better kb kc) kb kc)) u0 (sel (better kb kc) u2 u4)) := by rw [← EV3.out]; exact ev4
          have EL4 : Hid (l4 = sel (better ka (sel (better kb kc) kb kc)) la (sel (better kb kc) lb lc)) := by rw [← EL3.out]; exact el4
          clear ev4 el4 EV3 EL3
          go_wp2_with fail
          refine (best_any u0 u2 u4 ka kb kc w4 NA4.out NB4.out NC4.out).mono ?_
          rintro e w4 ⟨rfl, rfl⟩
          generalize (scanTo ka kb kc 3).1 = p at PL ⊢
          have hp := PL.out.1
          have hPk := PL.out.2
          have HV2 := (hPk _ u0 u2 u4).1
          have HV4 := (hPk _ u0 u2 u4).2
          have HL2 := (hPk _ la lb lc).1
          have HL4 := (hPk _ la lb lc).2
          rw [← EV2.out] at HV2
          rw [← EL2.out] at HL2
          rw [← EV4.out] at HV4
          rw [← EL4.out] at HL4
          clear PL hPk EV2 EL2 EV4 EL4
          obtain rfl | rfl | rfl : p = 0 ∨ p = 1 ∨ p = 2 := by omega
          · have EV2 : u0 = v2 := by simpa using HV2.symm
            have EV4 : u0 = v4 := by simpa using HV4.symm
            have EL2 : la = l2 := by simpa using HL2.symm
            have EL4 : la = l4 := by simpa using HL4.symm
            clear HV2 HV4 HL2 HL4 hp
            subst EV2 EV4 EL2 EL4
            go_wp2_with fail
            refine (same_self u0 _ w4 NA4.out).mono ?_
            rintro e w5 ⟨rfl, n5, rfl⟩
            go_wp2_with fail
            refine (same_self u0 _ _ (NA4.out.below (below_drewN (Below.refl _ _) n5))).mono ?_
            rintro e w5 ⟨rfl, n6, rfl⟩
            go_wp2
            go_ret
            exact ⟨rfl, below_drewN HW4.out _⟩
          · have EV2 : u2 = v2 := by simpa using HV2.symm
            have EV4 : u2 = v4 := by simpa using HV4.symm
            have EL2 : lb = l2 := by simpa using HL2.symm
            have EL4 : lb = l4 := by simpa using HL4.symm
            clear HV2 HV4 HL2 HL4 hp
            subst EV2 EV4 EL2 EL4
            go_wp2_with fail
            refine (same_self u2 _ w4 NB4.out).mono ?_
            rintro e w5 ⟨rfl, n5, rfl⟩
            go_wp2_with fail
            refine (same_self u2 _ _ (NB4.out.below (below_drewN (Below.refl _ _) n5))).mono ?_
            rintro e w5 ⟨rfl, n6, rfl⟩
            go_wp2
            go_ret
            exact ⟨rfl, below_drewN HW4.out _⟩
          · have EV2 : u4 = v2 := by simpa using HV2.symm
            have EV4 : u4 = v4 := by simpa using HV4.symm
            have EL2 : lc = l2 := by simpa using HL2.symm
            have EL4 : lc = l4 := by simpa using HL4.symm
            clear HV2 HV4 HL2 HL4 hp
            subst EV2 EV4 EL2 EL4
            go_wp2_with fail
            refine (same_self u4 _ w4 NC4.out).mono ?_
            rintro e w5 ⟨rfl, n5, rfl⟩
            go_wp2_with fail
            refine (same_self u4 _ _ (NC4.out.below (below_drewN (Below.refl _ _) n5))).mono ?_
            rintro e w5 ⟨rfl, n6, rfl⟩
            go_wp2
            go_ret
            exact ⟨rfl, below_drewN HW4.out _⟩
end Go.Proofs.Qxb6617298a
