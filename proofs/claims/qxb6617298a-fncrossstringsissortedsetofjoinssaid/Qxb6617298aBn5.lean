import Derived.Test.Qxb6617298aBn4
namespace Go.Proofs.Qxb6617298a
open Go.RowKit

/-- One round of the scan: 'i' the set's place, 'k' its key, 'st' the pick and the best key so far. -/
def scanStep (i : Nat) (k : Option (Nat × Nat)) (st : Nat × Option (Nat × Nat)) : Nat × Option (Nat × Nat) :=
  match k, st.2 with
  | none, _ => st
  | some q, none => (i, some q)
  | some q, some r => if r.1 < q.1 ∨ (q.1 = r.1 ∧ q.2 < r.2) then (i, some q) else st

def scanTo (ka kb kc : Option (Nat × Nat)) : Nat → Nat × Option (Nat × Nat)
  | 0 => (2, none)
  | 1 => scanStep 0 ka (2, none)
  | 2 => scanStep 1 kb (scanStep 0 ka (2, none))
  | _ => scanStep 2 kc (scanStep 1 kb (scanStep 0 ka (2, none)))

def fstOf (o : Option (Nat × Nat)) : Nat := match o with | none => 0 | some q => q.1
def sndOf (o : Option (Nat × Nat)) : Nat := match o with | none => 0 | some q => q.2

theorem scan_nil (i : Nat) (st : Nat × Option (Nat × Nat)) : scanStep i none st = st := rfl
theorem scan_first (i : Nat) (q : Nat × Nat) (p : Nat) : scanStep i (some q) (p, none) = (i, some q) := rfl
theorem scan_yes (i m n bm bn p : Nat) (h : bm < m ∨ (m = bm ∧ n < bn)) : scanStep i (some (m, n)) (p, some (bm, bn)) = (i, some (m, n)) := by
  simp only [scanStep]; rw [if_pos h]
theorem scan_no (i m n bm bn p : Nat) (h : ¬ (bm < m ∨ (m = bm ∧ n < bn))) : scanStep i (some (m, n)) (p, some (bm, bn)) = (p, some (bm, bn)) := by
  simp only [scanStep]; rw [if_neg h]

theorem IsNd.bound {w : World} {v : Value} {m n : Nat} (h : IsNd w v (some (m, n))) : m ≤ 140737488355328 ∧ n ≤ 140737488355328 := by
  rcases h with ⟨_, h⟩ | ⟨b, off, c, ss, _, _, h3, h4, h5, _⟩
  · cases h
  · simp only [Option.some.injEq, Prod.mk.injEq] at h5
    obtain ⟨rfl, rfl⟩ := h5
    exact ⟨mlen_le h4 _, h3⟩

/-- shortestLen, at whatever set that is not nil. -/
theorem short_nd {w : World} {v : Value} {m n : Nat} (h : IsNd w v (some (m, n))) : (∃ x c, v = .slice (some x) n c) ∧ Calls Try.prog 18 #[v] w fun e w' => e = .returned (.int .i64 m) ∧ w' = w := by
  rcases h with ⟨_, h⟩ | ⟨b, off, c, ss, h1, h2, h3, h4, h5, h6, h7⟩
  · cases h
  · simp only [Option.some.injEq, Prod.mk.injEq] at h5
    obtain ⟨rfl, rfl⟩ := h5
    subst h1
    exact ⟨⟨_, _, rfl⟩, shortest_any b off c ss w h2 h3 h4 h7⟩

set_option maxHeartbeats 2000000 in
theorem best_any (va vb vc : Value) (ka kb kc : Option (Nat × Nat)) (w : World) (hA : IsNd w va ka) (hB : IsNd w vb kb) (hC : IsNd w vc kc) :
    Calls Try.prog 12 #[va, vb, vc] w fun e w' => e = .returned (.int .i64 (scanTo ka kb kc 3).1) ∧ w' = w := by
  have hnil := eqlnil
  have HA : Hid (IsNd w va ka) := hA
  have HB : Hid (IsNd w vb kb) := hB
  have HC : Hid (IsNd w vc kc) := hC
  clear hA hB hC
  go_enter Try.func12, Try.ntmps12
  go_wp2
  go_loop [7, 8, 9, 10, 11] (fun p f m n i => ∃ (k pk : Nat) (bst : Option (Nat × Nat)), k ≤ 3 ∧ i = .int .i64 k ∧ p = .int .i64 pk ∧ f = .bool bst.isSome ∧ m = .int .i64 (fstOf bst) ∧ n = .int .i64 (sndOf bst) ∧ Hid (scanTo ka kb kc k = (pk, bst))) (fun _ _ _ _ i => 3 - (intOf i).toNat)
  case atStart => exact ⟨0, 2, none, by omega, rfl, rfl, rfl, rfl, rfl, rfl⟩
  case round =>
    obtain ⟨k, pk, bst, hk, rfl, rfl, rfl, rfl, rfl, hst⟩ := hrel
    obtain rfl | rfl | rfl | rfl : k = 0 ∨ k = 1 ∨ k = 2 ∨ k = 3 := by omega
    · -- round 0
      have hnx : Hid (scanTo ka kb kc 1 = scanStep 0 ka (pk, bst)) := by
        show _ = _
        rw [← hst.out]; rfl
      clear hst
      rcases ka with _ | ⟨m, n⟩
      · obtain ⟨rfl, _⟩ | ⟨_, _, _, _, _, _, _, _, hbad, _⟩ := HA.out
        · go_wp2
          go_round
          case rel => exact ⟨1, pk, bst, by omega, by go_num, rfl, rfl, rfl, rfl, by show _ = _; rw [hnx.out]; rfl⟩
          case measure => simp [intOf]
        · cases hbad
      · obtain ⟨hm, hn⟩ := HA.out.bound
        obtain ⟨⟨x, c, rfl⟩, hcon⟩ := short_nd HA.out
        rcases bst with _ | ⟨bm, bn⟩
        · simp only [Option.isSome, fstOf, sndOf]
          go_wp2_with (go_at_call 18; refine hcon.mono ?_; rintro e w' ⟨rfl, rfl⟩)
          go_round
          case rel => exact ⟨1, 0, some (m, n), by omega, by go_num, rfl, rfl, rfl, rfl, by show _ = _; rw [hnx.out]; rfl⟩
          case measure => simp [intOf]
        · simp only [Option.isSome, fstOf, sndOf]
          by_cases h1 : (bm : Int) < (m : Int)
          · go_wp2_with (go_at_call 18; refine hcon.mono ?_; rintro e w' ⟨rfl, rfl⟩)
            go_round
            case rel => exact ⟨1, 0, some (m, n), by omega, by go_num, rfl, rfl, rfl, rfl, by show _ = _; rw [hnx.out]; exact scan_yes _ _ _ _ _ _ (by omega)⟩
            case measure => simp [intOf]
          · by_cases h2 : m = bm
            · have h2' : ((m : Int) == (bm : Int)) = true := beq_iff_eq.2 (by omega)
              have H2 : Hid (m = bm) := h2
              clear h2
              by_cases h3 : (n : Int) < (bn : Int)
              · go_wp2_with (go_at_call 18; refine hcon.mono ?_; rintro e w' ⟨rfl, rfl⟩)
                go_round
                case rel => exact ⟨1, 0, some (m, n), by omega, by go_num, rfl, rfl, rfl, rfl, by show _ = _; rw [hnx.out]; exact scan_yes _ _ _ _ _ _ (.inr ⟨H2.out, by omega⟩)⟩
                case measure => simp [intOf]
              · go_wp2_with (go_at_call 18; refine hcon.mono ?_; rintro e w' ⟨rfl, rfl⟩)
                go_round
                case rel => exact ⟨1, pk, some (bm, bn), by omega, by go_num, rfl, rfl, rfl, rfl, by show _ = _; rw [hnx.out]; exact scan_no _ _ _ _ _ _ (by omega)⟩
                case measure => simp [intOf]
            · have h2' : ((m : Int) == (bm : Int)) = false := beq_eq_false_iff_ne.2 (by omega)
              have H2 : Hid (¬ m = bm) := h2
              clear h2
              go_wp2_with (go_at_call 18; refine hcon.mono ?_; rintro e w' ⟨rfl, rfl⟩)
              go_round
              case rel => exact ⟨1, pk, some (bm, bn), by omega, by go_num, rfl, rfl, rfl, rfl, by show _ = _; rw [hnx.out]; exact scan_no _ _ _ _ _ _ (by have := H2.out; omega)⟩
              case measure => simp [intOf]
    · -- round 1
      have hnx : Hid (scanTo ka kb kc 2 = scanStep 1 kb (pk, bst)) := by
        show _ = _
        rw [← hst.out]; rfl
      clear hst
      rcases kb with _ | ⟨m, n⟩
      · obtain ⟨rfl, _⟩ | ⟨_, _, _, _, _, _, _, _, hbad, _⟩ := HB.out
        · go_wp2
          go_round
          case rel => exact ⟨2, pk, bst, by omega, by go_num, rfl, rfl, rfl, rfl, by show _ = _; rw [hnx.out]; rfl⟩
          case measure => simp [intOf]
        · cases hbad
      · obtain ⟨hm, hn⟩ := HB.out.bound
        obtain ⟨⟨x, c, rfl⟩, hcon⟩ := short_nd HB.out
        rcases bst with _ | ⟨bm, bn⟩
        · simp only [Option.isSome, fstOf, sndOf]
          go_wp2_with (go_at_call 18; refine hcon.mono ?_; rintro e w' ⟨rfl, rfl⟩)
          go_round
          case rel => exact ⟨2, 1, some (m, n), by omega, by go_num, rfl, rfl, rfl, rfl, by show _ = _; rw [hnx.out]; rfl⟩
          case measure => simp [intOf]
        · simp only [Option.isSome, fstOf, sndOf]
          by_cases h1 : (bm : Int) < (m : Int)
          · go_wp2_with (go_at_call 18; refine hcon.mono ?_; rintro e w' ⟨rfl, rfl⟩)
            go_round
            case rel => exact ⟨2, 1, some (m, n), by omega, by go_num, rfl, rfl, rfl, rfl, by show _ = _; rw [hnx.out]; exact scan_yes _ _ _ _ _ _ (by omega)⟩
            case measure => simp [intOf]
          · by_cases h2 : m = bm
            · have h2' : ((m : Int) == (bm : Int)) = true := beq_iff_eq.2 (by omega)
              have H2 : Hid (m = bm) := h2
              clear h2
              by_cases h3 : (n : Int) < (bn : Int)
              · go_wp2_with (go_at_call 18; refine hcon.mono ?_; rintro e w' ⟨rfl, rfl⟩)
                go_round
                case rel => exact ⟨2, 1, some (m, n), by omega, by go_num, rfl, rfl, rfl, rfl, by show _ = _; rw [hnx.out]; exact scan_yes _ _ _ _ _ _ (.inr ⟨H2.out, by omega⟩)⟩
                case measure => simp [intOf]
              · go_wp2_with (go_at_call 18; refine hcon.mono ?_; rintro e w' ⟨rfl, rfl⟩)
                go_round
                case rel => exact ⟨2, pk, some (bm, bn), by omega, by go_num, rfl, rfl, rfl, rfl, by show _ = _; rw [hnx.out]; exact scan_no _ _ _ _ _ _ (by omega)⟩
                case measure => simp [intOf]
            · have h2' : ((m : Int) == (bm : Int)) = false := beq_eq_false_iff_ne.2 (by omega)
              have H2 : Hid (¬ m = bm) := h2
              clear h2
              go_wp2_with (go_at_call 18; refine hcon.mono ?_; rintro e w' ⟨rfl, rfl⟩)
              go_round
              case rel => exact ⟨2, pk, some (bm, bn), by omega, by go_num, rfl, rfl, rfl, rfl, by show _ = _; rw [hnx.out]; exact scan_no _ _ _ _ _ _ (by have := H2.out; omega)⟩
              case measure => simp [intOf]
    · -- round 2
      have hnx : Hid (scanTo ka kb kc 3 = scanStep 2 kc (pk, bst)) := by
        show _ = _
        rw [← hst.out]; rfl
      clear hst
      rcases kc with _ | ⟨m, n⟩
      · obtain ⟨rfl, _⟩ | ⟨_, _, _, _, _, _, _, _, hbad, _⟩ := HC.out
        · go_wp2
          go_round
          case rel => exact ⟨3, pk, bst, by omega, by go_num, rfl, rfl, rfl, rfl, by show _ = _; rw [hnx.out]; rfl⟩
          case measure => simp [intOf]
        · cases hbad
      · obtain ⟨hm, hn⟩ := HC.out.bound
        obtain ⟨⟨x, c, rfl⟩, hcon⟩ := short_nd HC.out
        rcases bst with _ | ⟨bm, bn⟩
        · simp only [Option.isSome, fstOf, sndOf]
          go_wp2_with (go_at_call 18; refine hcon.mono ?_; rintro e w' ⟨rfl, rfl⟩)
          go_round
          case rel => exact ⟨3, 2, some (m, n), by omega, by go_num, rfl, rfl, rfl, rfl, by show _ = _; rw [hnx.out]; rfl⟩
          case measure => simp [intOf]
        · simp only [Option.isSome, fstOf, sndOf]
          by_cases h1 : (bm : Int) < (m : Int)
          · go_wp2_with (go_at_call 18; refine hcon.mono ?_; rintro e w' ⟨rfl, rfl⟩)
            go_round
            case rel => exact ⟨3, 2, some (m, n), by omega, by go_num, rfl, rfl, rfl, rfl, by show _ = _; rw [hnx.out]; exact scan_yes _ _ _ _ _ _ (by omega)⟩
            case measure => simp [intOf]
          · by_cases h2 : m = bm
            · have h2' : ((m : Int) == (bm : Int)) = true := beq_iff_eq.2 (by omega)
              have H2 : Hid (m = bm) := h2
              clear h2
              by_cases h3 : (n : Int) < (bn : Int)
              · go_wp2_with (go_at_call 18; refine hcon.mono ?_; rintro e w' ⟨rfl, rfl⟩)
                go_round
                case rel => exact ⟨3, 2, some (m, n), by omega, by go_num, rfl, rfl, rfl, rfl, by show _ = _; rw [hnx.out]; exact scan_yes _ _ _ _ _ _ (.inr ⟨H2.out, by omega⟩)⟩
                case measure => simp [intOf]
              · go_wp2_with (go_at_call 18; refine hcon.mono ?_; rintro e w' ⟨rfl, rfl⟩)
                go_round
                case rel => exact ⟨3, pk, some (bm, bn), by omega, by go_num, rfl, rfl, rfl, rfl, by show _ = _; rw [hnx.out]; exact scan_no _ _ _ _ _ _ (by omega)⟩
                case measure => simp [intOf]
            · have h2' : ((m : Int) == (bm : Int)) = false := beq_eq_false_iff_ne.2 (by omega)
              have H2 : Hid (¬ m = bm) := h2
              clear h2
              go_wp2_with (go_at_call 18; refine hcon.mono ?_; rintro e w' ⟨rfl, rfl⟩)
              go_round
              case rel => exact ⟨3, pk, some (bm, bn), by omega, by go_num, rfl, rfl, rfl, rfl, by show _ = _; rw [hnx.out]; exact scan_no _ _ _ _ _ _ (by have := H2.out; omega)⟩
              case measure => simp [intOf]
    · have hfin : Hid ((scanTo ka kb kc 3).1 = pk) := by show _ = _; rw [hst.out]
      clear hst
      go_wp2
      go_ret
      exact ⟨ret_int (by rw [hfin.out]), rfl⟩
end Go.Proofs.Qxb6617298a
