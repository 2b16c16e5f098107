import Derived.Test.Qxb6617328aFindIx
import Derived.Test.Qxb6617328aGuard
namespace Go.Proofs.Qxb6617328a
open Go.RowKit

set_option maxHeartbeats 4000000 in
set_option maxRecDepth 100000 in
theorem walk4 (path : ByteArray) (pa : Option Addr) (da : Nat) (sa : List ByteArray) (key : ByteArray) (w : World) (hp : path.size ≤ maxLen) (na : sa.length ≤ maxLen) (za : ∀ s ∈ sa, s.size ≤ maxLen) (ra : Came w pa da sa) (hk : key.size ≤ maxLen) :
    Calls Try.prog 4 #[.string path, .slice pa sa.length da, .string key] w fun e w' => e = .returned (.bool true) ∧ Below w.heap.size w w' := by
  have hby := bytes_find path pa da sa key w hp na za ra.row hk
  have hneq := neqnil
  have RA : Hid (Came w pa da sa) := ra
  clear na za ra hp hk
  go_enter Try.func4, Try.ntmps4
  go_wp2_with fail
  refine hby.mono ?_
  clear hby
  rintro e w ⟨⟨r, rfl, hsm⟩, rfl⟩
  cases r
  · go_wp2
    go_ret
    exact ⟨rfl, Below.refl _ _⟩
  obtain ⟨hsmall, hp, hk⟩ := hsm rfl
  clear hsm
  have na := hsmall.1
  have HS0 : Hid (Small sa) := hsmall
  clear hsmall
  go_wp2_with fail
  refine (toobig_any path pa da sa key 65536 w hp hk HS0.out RA.out.row).mono ?_
  rintro e w ⟨⟨r, rfl, hle⟩, rfl⟩
  cases r
  case true =>
    go_wp2
    go_ret
    exact ⟨rfl, Below.refl _ _⟩
  have hle2 := hle rfl
  clear hle
  go_wp2_with fail
  refine (unsorted_any pa da sa w (by omega) RA.out.row).mono ?_
  rintro e wq ⟨⟨r, rfl, hinc⟩, hq⟩
  have HQ : Hid (Below w.heap.size w wq) := hq.below
  have RA1 : Hid (Came wq pa da sa) := by
    obtain ⟨n, rfl⟩ := hq
    exact RA.out
  clear hq RA
  cases r
  case true =>
    go_wp2
    go_ret
    exact ⟨rfl, HQ.out⟩
  have HI : Hid (8 < sa.length → Inc sa) := hinc rfl
  clear hinc
  go_upto_if 23 with fail
  go_cut [1] (fun v wx => ∃ o c, v = .slice o sa.length c ∧ Hid (Row wx o sa) ∧ Hid (Below wq.heap.size wq wx))
  case first =>
    rcases RA1.out with ⟨rfl, rfl, rfl⟩ | ⟨x, rfl, hrow⟩
    · go_wp2
      go_meet
      case rel => exact ⟨none, 0, rfl, .inl rfl, Below.refl _ _⟩
    · have HR : Hid (sa = [] ∨ ∃ b off, x = ⟨b, off, none⟩ ∧ b < wq.heap.size ∧ Cells wq b off sa) := hrow
      clear hrow
      obtain ⟨i, hi, hz0, hz1, hz2⟩ := info_parts Try.info9
      go_wp2_with (at_make; refine wpList_make_full _ rfl _ _ 25 rfl wq.heap.size 9 i _ 1 Try.underlying25 hi hz0 hz1 _ _ _ _ sa.length rfl rfl rfl rfl (by rw [hz2]; omega) (by unfold maxLen; omega) (Nat.le_refl _) ?_)
      intro w1 hown hgrow
      have hbw : Hid (Below wq.heap.size wq w1) := (Below.refl _ _).grown hgrow (Nat.le_refl _) (fun k h => by cases h)
      obtain ⟨cur, hg1, hcur⟩ := made_row hown
      have HG : Hid (w1.heap[wq.heap.size]? = some (.cells cur.toArray 9 (0, 0))) := hg1
      have HS : Hid (0 < (sa.map Value.string).length → ∃ ad, some x = some ad ∧ ∀ j v, (sa.map Value.string)[j]? = some v → w1.cell? (ad.add j) = some v) := src_any HR.out hbw.out
      clear hown hgrow hg1 hi hz0 hz1 hz2
      go_upto_region 9 with fail
      go_wp2_with (refine wpList_copy_splice rfl _ _ 25 25 rfl 9 Try.underlying25 Try.size9 _ _ _ _ _ _ rfl rfl wq.heap.size 0 cur 9 HG.out (sa.map Value.string) (by simp) (fun h => ⟨rfl, HS.out h⟩) (by simp; omega) (strings_oneCell sa) wq.heap.size wq hbw.out (Nat.le_refl _) ?_)
      intro w2 HG2 hb2
      have HB2 : Hid (Below wq.heap.size wq w2) := hb2
      clear hb2
      go_wp2
      go_meet
      case rel => exact ⟨_, _, rfl, .inr ⟨wq.heap.size, 0, rfl, lt_of_block HG2.out, cells_of_splice HG2.out⟩, HB2.out⟩
  case rest =>
    obtain ⟨oa, ca, rfl, hA, hBA⟩ := hcut
    obtain ⟨wA, rfl⟩ : ∃ x, x = wc := ⟨wc, rfl⟩
    have HW : Hid (Below w.heap.size w wA) := HQ.out.trans (hBA.out.mono HQ.out.size)
    clear HQ hBA RA1 HS0
    go_wp2_with fail
    refine (index_any path oa ca sa key wA (by omega) hA.out HI.out).mono ?_
    rintro e w2 ⟨⟨r, rfl, hr⟩, hb2⟩
    have HW2 : Hid (Below w.heap.size w w2) := HW.out.trans (hb2.mono HW.out.size)
    have RA2 : Hid (Row w2 oa sa) := hA.out.below hb2
    clear hb2 hA HW HI
    rcases hr with ⟨rfl, hno⟩ | ⟨i, rfl, hi, hk1, hno⟩
    · have HN : Hid (∀ i, i < sa.length → at_ sa i ≠ key) := hno
      clear hno
      go_wp2
      go_loop [9] (fun i => ∃ k : Nat, k ≤ sa.length ∧ i = .int .i64 k) (fun i => sa.length - (intOf i).toNat)
      case atStart => exact ⟨0, by omega, rfl⟩
      case round =>
        obtain ⟨k, hk2, rfl⟩ := hrel
        by_cases hlt : k < sa.length
        · have hlt' : (k : Int) < (sa.length : Int) := by omega
          obtain ⟨b, off, rfl, hc⟩ := RA2.out.at hlt
          have ht : ((at_ sa k).toList == key.toList) = false := (eq_false_iff _ _).2 (HN.out k hlt)
          generalize at_ sa k = s at *
          go_wp2
          go_round
          case rel => exact ⟨k + 1, by omega, by go_num⟩
          case measure => simp [intOf]; omega
        · have hlt' : ¬ (k : Int) < (sa.length : Int) := by omega
          go_wp2
          go_ret
          exact ⟨rfl, HW2.out⟩
    · have HN : Hid (∀ j, i < j → j < sa.length → at_ sa j ≠ key) := hno
      have hil : (i : Int) < (sa.length : Int) := by omega
      obtain ⟨b, off, rfl, hc⟩ := RA2.out.at hi
      have ht : ((at_ sa i).toList == key.toList) = true := (eq_true_iff _ _).2 hk1
      have ht2 : ((at_ sa i).toList != key.toList) = false := by rw [bne, ht]; rfl
      clear hno hk1
      generalize at_ sa i = s at hc ht ht2
      go_wp2
      go_loop [10] (fun j => ∃ k : Nat, i < k ∧ k ≤ sa.length ∧ j = .int .i64 k) (fun j => sa.length - (intOf j).toNat)
      case atStart => exact ⟨i + 1, by omega, by omega, by go_num⟩
      case round =>
        clear hc ht ht2
        obtain ⟨k, hk3, hk2, rfl⟩ := hrel
        by_cases hlt : k < sa.length
        · have hlt' : (k : Int) < (sa.length : Int) := by omega
          obtain ⟨b2, off2, e2, hc2⟩ := RA2.out.at hlt
          cases e2
          have ht : ((at_ sa k).toList == key.toList) = false := (eq_false_iff _ _).2 (HN.out k hk3 hlt)
          generalize at_ sa k = s2 at *
          go_wp2
          go_round
          case rel => exact ⟨k + 1, by omega, by omega, by go_num⟩
          case measure => simp [intOf]; omega
        · have hlt' : ¬ (k : Int) < (sa.length : Int) := by omega
          go_wp2
          go_ret
          exact ⟨rfl, HW2.out⟩
end Go.Proofs.Qxb6617328a
