import Derived.Test.Qxb6617298aCr2
import Derived.Test.Qxb6617298aBn3
namespace Go.Proofs.Qxb6617298a
open Go.RowKit

set_option maxHeartbeats 2000000 in
set_option maxRecDepth 100000 in
theorem sorted_yes (bg og cg : Nat) (sg : List ByteArray) (oa : Option Addr) (ca : Nat) (sa : List ByteArray) (ob : Option Addr) (cb : Nat) (sb : List ByteArray) (oc : Option Addr) (cc : Nat) (sc : List ByteArray) (w : World)
    (rg : Row w (some ⟨bg, og, none⟩) sg) (ra : Row w oa sa) (rb : Row w ob sb) (rc : Row w oc sc)
    (h1 : ∀ i, i + 1 < sg.length → Op.bytesLess (at_ sg i).toList (at_ sg (i + 1)).toList = true)
    (h2 : ∀ m, m < sg.length → ∃ i j k, i < sa.length ∧ j < sb.length ∧ k < sc.length ∧ isJoin (at_ sg m) (at_ sa i) (at_ sb j) (at_ sc k) = true)
    (h3 : ∀ i j k, i < sa.length → j < sb.length → k < sc.length → ∃ m, m < sg.length ∧ isJoin (at_ sg m) (at_ sa i) (at_ sb j) (at_ sc k) = true) :
    Calls Try.prog 9 #[.slice (some ⟨bg, og, none⟩) sg.length cg, .slice oa sa.length ca, .slice ob sb.length cb, .slice oc sc.length cc] w fun e w' => e = .returned (.bool true) ∧ Qt w w' := by
  have hnil := eqlnil
  have ng := rg.1
  have na := ra.1
  have nb := rb.1
  have nc := rc.1
  have RG : Hid (Row w (some ⟨bg, og, none⟩) sg) := rg
  have RA : Hid (Row w oa sa) := ra
  have RB : Hid (Row w ob sb) := rb
  have RC : Hid (Row w oc sc) := rc
  have H1 : Hid (∀ i, i + 1 < sg.length → Op.bytesLess (at_ sg i).toList (at_ sg (i + 1)).toList = true) := h1
  have H2 : Hid (∀ m, m < sg.length → ∃ i j k, i < sa.length ∧ j < sb.length ∧ k < sc.length ∧ isJoin (at_ sg m) (at_ sa i) (at_ sb j) (at_ sc k) = true) := h2
  have H3 : Hid (∀ i j k, i < sa.length → j < sb.length → k < sc.length → ∃ m, m < sg.length ∧ isJoin (at_ sg m) (at_ sa i) (at_ sb j) (at_ sc k) = true) := h3
  clear ra rb rc rg h1 h2 h3
  go_enter Try.func9, Try.ntmps9
  go_wp2
  go_loopw [9] (fun i wr => ∃ k : Nat, (k ≤ sg.length ∨ k = 0) ∧ i = .int .i64 ((k : Int) + 1) ∧ Qt w wr) (fun i _ => sg.length + 1 - (intOf i).toNat)
  case atStart => exact ⟨0, by omega, rfl, Qt.refl _⟩
  case round =>
    obtain ⟨i, hi, rfl, hq⟩ := hrel
    by_cases hig : i + 1 < sg.length
    · have hig' : (i : Int) + 1 < (sg.length : Int) := by omega
      have hig2 : (i : Int) < (sg.length : Int) := by omega
      obtain ⟨b1, f1, e1, hc1, z1⟩ := (Qt.row RG.out hq).at (i := i) (by omega)
      obtain ⟨b2, f2, e2, hc2, z2⟩ := (Qt.row RG.out hq).at hig
      cases e1
      cases e2
      have hL := H1.out i hig
      generalize at_ sg i = p at *
      generalize at_ sg (i + 1) = q at *
      go_wp2
      go_quiet (fail)
      go_wp2
      go_roundw
      case rel => exact ⟨i + 1, by omega, by go_num, hq.drewN _⟩
      case measure => simp [intOf]; omega
    · have hig' : ¬ (i : Int) + 1 < (sg.length : Int) := by omega
      go_wp2
      go_loopw [10] (fun i wr => ∃ k : Nat, k ≤ sg.length ∧ i = .int .i64 k ∧ Qt w wr) (fun i _ => sg.length - (intOf i).toNat)
      case atStart => exact ⟨0, by omega, rfl, hq⟩
      case round =>
        clear hq
        obtain ⟨m, hm, rfl, hq⟩ := hrel
        by_cases hmg : m < sg.length
        · have hmg' : (m : Int) < (sg.length : Int) := by omega
          obtain ⟨b1, f1, e1, hc1, z1⟩ := (Qt.row RG.out hq).at hmg
          cases e1
          obtain ⟨i0, j0, k0, hi0, hj0, hk0, hJ⟩ := H2.out m hmg
          have hcon := injoins_yes (at_ sg m) oa ca sa ob cb sb oc cc sc _ (by omega) (Qt.row RA.out hq) (Qt.row RB.out hq) (Qt.row RC.out hq) i0 j0 k0 hi0 hj0 hk0 hJ
          clear hJ hi0 hj0 hk0
          generalize at_ sg m = p at *
          go_wp2_with fail
          refine hcon.mono ?_
          rintro e w2 ⟨rfl, hq2⟩
          have hq3 := hq.trans hq2
          clear hcon hq2 hc1
          go_wp2
          go_roundw
          case rel => exact ⟨m + 1, by omega, by go_num, hq3⟩
          case measure => simp [intOf]; omega
        · have hmg' : ¬ (m : Int) < (sg.length : Int) := by omega
          go_wp2
          go_loopw [11] (fun i wr => ∃ k : Nat, k ≤ sa.length ∧ i = .int .i64 k ∧ Qt w wr) (fun i _ => sa.length - (intOf i).toNat)
          case atStart => exact ⟨0, by omega, rfl, hq⟩
          case round =>
            clear hq
            obtain ⟨i, hil, rfl, hq⟩ := hrel
            by_cases hia : i < sa.length
            · have hia' : (i : Int) < (sa.length : Int) := by omega
              go_wp2
              go_loopw [12] (fun i wr => ∃ k : Nat, k ≤ sb.length ∧ i = .int .i64 k ∧ Qt w wr) (fun i _ => sb.length - (intOf i).toNat)
              case atStart => exact ⟨0, by omega, rfl, hq⟩
              case round =>
                clear hq
                obtain ⟨j, hjl, rfl, hq⟩ := hrel
                by_cases hjb : j < sb.length
                · have hjb' : (j : Int) < (sb.length : Int) := by omega
                  go_wp2
                  go_loopw [13] (fun i wr => ∃ k : Nat, k ≤ sc.length ∧ i = .int .i64 k ∧ Qt w wr) (fun i _ => sc.length - (intOf i).toNat)
                  case atStart => exact ⟨0, by omega, rfl, hq⟩
                  case round =>
                    clear hq
                    obtain ⟨k, hkl, rfl, hq⟩ := hrel
                    by_cases hkc : k < sc.length
                    · have hkc' : (k : Int) < (sc.length : Int) := by omega
                      obtain ⟨m0, hm0, hJ⟩ := H3.out i j k hia hjb hkc
                      have HJ : Hid (isJoin (at_ sg m0) (at_ sa i) (at_ sb j) (at_ sc k) = true) := hJ
                      clear hJ
                      go_wp2
                      go_loopw [14, 15] (fun f i wr => ∃ t : Nat, t ≤ m0 ∧ i = .int .i64 t ∧ f = .bool false ∧ Qt w wr) (fun _ i _ => sg.length - (intOf i).toNat)
                      case atStart => exact ⟨0, by omega, rfl, rfl, hq⟩
                      case round =>
                        clear hq
                        obtain ⟨t, htl, rfl, rfl, hq⟩ := hrel
                        have htg : (t : Int) < (sg.length : Int) := by omega
                        obtain ⟨b1, f1, e1, hc1, z1⟩ := (Qt.row RG.out hq).at (i := t) (by omega)
                        cases e1
                        obtain ⟨ba, fa, rfl, hca, za⟩ := (Qt.row RA.out hq).at hia
                        obtain ⟨bb, fb, rfl, hcb, zb⟩ := (Qt.row RB.out hq).at hjb
                        obtain ⟨bc, fc, rfl, hcc, zc⟩ := (Qt.row RC.out hq).at hkc
                        have hE : Hid (isJoin (at_ sg t) (at_ sa i) (at_ sb j) (at_ sc k) = false → ¬ t = m0) := by
                          rintro h rfl
                          rw [HJ.out] at h
                          cases h
                        clear HJ
                        generalize at_ sg t = x at *
                        generalize at_ sa i = p at *
                        generalize at_ sb j = q at *
                        generalize at_ sc k = s at *
                        have hcon := fun W => joins_any x p q s W (by omega) (by omega) (by omega) (by omega)
                        generalize isJoin x p q s = bt at hcon hE
                        cases bt
                        · go_wp2
                          go_quiet ((go_at_call 16; exact Calls.quiet_of_same (hcon _)))
                          go_wp2
                          go_roundw
                          case rel => exact ⟨t + 1, by have := hE.out (by simp); omega, by go_num, rfl, hq.drewN _⟩
                          case measure => simp [intOf]; omega
                        · go_wp2
                          go_quiet ((go_at_call 16; exact Calls.quiet_of_same (hcon _)))
                          go_wp2
                          go_roundw
                          case rel => exact ⟨k + 1, by omega, by go_num, hq.drewN _⟩
                          case measure => simp [intOf]; omega
                    · have hkc' : ¬ (k : Int) < (sc.length : Int) := by omega
                      go_wp2
                      go_roundw
                      case rel => exact ⟨j + 1, by omega, by go_num, hq⟩
                      case measure => simp [intOf]; omega
                · have hjb' : ¬ (j : Int) < (sb.length : Int) := by omega
                  go_wp2
                  go_roundw
                  case rel => exact ⟨i + 1, by omega, by go_num, hq⟩
                  case measure => simp [intOf]; omega
            · have hia' : ¬ (i : Int) < (sa.length : Int) := by omega
              go_wp2
              go_ret
              exact ⟨rfl, hq⟩
end Go.Proofs.Qxb6617298a
