import Derived.Test.Qxb6617298aBn6
namespace Go.Proofs.Qxb6617298a
open Go.RowKit

/-- It hands back a Bool; where that is true, p holds. -/
def Says (e : Ending) (p : Prop) : Prop := ∃ r : Bool, e = .returned (.bool r) ∧ (r = true → p)
theorem Says.no {p : Prop} : Says (.returned (.bool false)) p := ⟨false, rfl, fun h => by cases h⟩
theorem Says.yes {p : Prop} (h : p) : Says (.returned (.bool true)) p := ⟨true, rfl, fun _ => h⟩

/-- Few strings, each of them short. -/
def Small (ss : List ByteArray) : Prop := ss.length ≤ 1048576 ∧ ∀ s ∈ ss, s.size ≤ 1048576

theorem small_of {ss : List ByteArray} (h1 : ss.length ≤ 1048576) (h2 : ∀ j, j < ss.length → (ss.getD j ByteArray.empty).size ≤ 1048576) : Small ss := by
  refine ⟨h1, fun s hs => ?_⟩
  obtain ⟨j, hj, rfl⟩ := List.getElem_of_mem hs
  have := h2 j hj
  have e : ss.getD j ByteArray.empty = ss[j] := by simp [List.getD, hj]
  rwa [e] at this

set_option maxHeartbeats 2000000 in
theorem bytes_better (oa : Option Addr) (ca : Nat) (sa : List ByteArray) (ob : Option Addr) (cb : Nat) (sb : List ByteArray) (oc : Option Addr) (cc : Nat) (sc : List ByteArray) (la : Int) (lb : Int) (lc : Int) (w : World)
    (na : sa.length ≤ maxLen) (za : ∀ s ∈ sa, s.size ≤ maxLen) (ra : StrRow w oa sa)
    (nb : sb.length ≤ maxLen) (zb : ∀ s ∈ sb, s.size ≤ maxLen) (rb : StrRow w ob sb)
    (nc : sc.length ≤ maxLen) (zc : ∀ s ∈ sc, s.size ≤ maxLen) (rc : StrRow w oc sc) :
    Calls Try.prog 10 #[.slice oa sa.length ca, .int .i64 la, .slice ob sb.length cb, .int .i64 lb, .slice oc sc.length cc, .int .i64 lc] w fun e w' => Says e (Small sa ∧ Small sb ∧ Small sc) ∧ w' = w := by
  have Za : Hid (∀ s ∈ sa, s.size ≤ maxLen) := za
  have Ra : Hid (StrRow w oa sa) := ra
  clear za ra
  unfold maxLen at na
  have Zb : Hid (∀ s ∈ sb, s.size ≤ maxLen) := zb
  have Rb : Hid (StrRow w ob sb) := rb
  clear zb rb
  unfold maxLen at nb
  have Zc : Hid (∀ s ∈ sc, s.size ≤ maxLen) := zc
  have Rc : Hid (StrRow w oc sc) := rc
  clear zc rc
  unfold maxLen at nc
  by_cases ba : (1048576 : Int) < (sa.length : Int)
  · go_enter Try.func10, Try.ntmps10
    go_wp2
    go_ret
    exact ⟨Says.no, rfl⟩
  go_enter Try.func10, Try.ntmps10
  go_wp2
  go_loop [13, 14] (fun t i => ∃ (k : Nat) (z : Int), k ≤ sa.length ∧ i = .int .i64 k ∧ t = .int .i64 z ∧ 0 ≤ z ∧ z ≤ 1048576 ∧ Hid (∀ j, j < k → (sa.getD j ByteArray.empty).size ≤ 1048576)) (fun _ i => sa.length - (intOf i).toNat)
  case atStart => exact ⟨0, _, by omega, rfl, rfl, by omega, by omega, fun j hj => by omega⟩
  case round =>
    obtain ⟨k, z, hk, rfl, rfl, hz0, hz1, hall⟩ := hrel
    by_cases hlt : k < sa.length
    · rcases Ra.out with hnil | ⟨b, off, hob, hc⟩
      · rw [hnil] at hlt; simp at hlt
      subst hob
      have hc1 := hc k hlt
      have hs1 := size_getD Za.out k
      have hall1 : Hid ((sa.getD k ByteArray.empty).size ≤ 1048576 → ∀ j, j < k + 1 → (sa.getD j ByteArray.empty).size ≤ 1048576) := fun h j hj => by
        by_cases e : j = k
        · rw [e]; exact h
        · exact hall.out j (by omega)
      generalize sa.getD k ByteArray.empty = s at hc1 hs1 hall1
      clear hc
      unfold maxLen at hs1
      have hlt' : (k : Int) < (sa.length : Int) := by omega
      by_cases hb1 : (1048576 : Int) < (s.size : Int)
      · go_wp2
        go_ret
        exact ⟨Says.no, rfl⟩
      · by_cases hb2 : (1048576 : Int) < z + (s.size : Int)
        · go_wp2
          go_ret
          exact ⟨Says.no, rfl⟩
        · go_wp2
          go_round
          case rel => exact ⟨k + 1, _, by omega, by go_num, rfl, by omega, by omega, hall1.out (by omega)⟩
          case measure => simp [intOf]; omega
    · have hge : ¬ (k : Int) < (sa.length : Int) := by omega
      have Aa : Hid (Small sa) := small_of (by omega) (fun j hj => hall.out j (by omega))
      clear hall
      by_cases bb : (1048576 : Int) < (sb.length : Int)
      · go_wp2
        go_ret
        exact ⟨Says.no, rfl⟩
      by_cases db : (1048576 : Int) < z + (sb.length : Int)
      · go_wp2
        go_ret
        exact ⟨Says.no, rfl⟩
      go_wp2
      go_loop [13, 15] (fun t i => ∃ (k : Nat) (z : Int), k ≤ sb.length ∧ i = .int .i64 k ∧ t = .int .i64 z ∧ 0 ≤ z ∧ z ≤ 1048576 ∧ Hid (∀ j, j < k → (sb.getD j ByteArray.empty).size ≤ 1048576)) (fun _ i => sb.length - (intOf i).toNat)
      case atStart => exact ⟨0, _, by omega, rfl, rfl, by omega, by omega, fun j hj => by omega⟩
      case round =>
        obtain ⟨k, z, hk, rfl, rfl, hz0, hz1, hall⟩ := hrel
        by_cases hlt : k < sb.length
        · rcases Rb.out with hnil | ⟨b, off, hob, hc⟩
          · rw [hnil] at hlt; simp at hlt
          subst hob
          have hc1 := hc k hlt
          have hs1 := size_getD Zb.out k
          have hall1 : Hid ((sb.getD k ByteArray.empty).size ≤ 1048576 → ∀ j, j < k + 1 → (sb.getD j ByteArray.empty).size ≤ 1048576) := fun h j hj => by
            by_cases e : j = k
            · rw [e]; exact h
            · exact hall.out j (by omega)
          generalize sb.getD k ByteArray.empty = s at hc1 hs1 hall1
          clear hc
          unfold maxLen at hs1
          have hlt' : (k : Int) < (sb.length : Int) := by omega
          by_cases hb1 : (1048576 : Int) < (s.size : Int)
          · go_wp2
            go_ret
            exact ⟨Says.no, rfl⟩
          · by_cases hb2 : (1048576 : Int) < z + (s.size : Int)
            · go_wp2
              go_ret
              exact ⟨Says.no, rfl⟩
            · go_wp2
              go_round
              case rel => exact ⟨k + 1, _, by omega, by go_num, rfl, by omega, by omega, hall1.out (by omega)⟩
              case measure => simp [intOf]; omega
        · have hge : ¬ (k : Int) < (sb.length : Int) := by omega
          have Ab : Hid (Small sb) := small_of (by omega) (fun j hj => hall.out j (by omega))
          clear hall
          by_cases bc : (1048576 : Int) < (sc.length : Int)
          · go_wp2
            go_ret
            exact ⟨Says.no, rfl⟩
          by_cases dc : (1048576 : Int) < z + (sc.length : Int)
          · go_wp2
            go_ret
            exact ⟨Says.no, rfl⟩
          go_wp2
          go_loop [13, 16] (fun t i => ∃ (k : Nat) (z : Int), k ≤ sc.length ∧ i = .int .i64 k ∧ t = .int .i64 z ∧ 0 ≤ z ∧ z ≤ 1048576 ∧ Hid (∀ j, j < k → (sc.getD j ByteArray.empty).size ≤ 1048576)) (fun _ i => sc.length - (intOf i).toNat)
          case atStart => exact ⟨0, _, by omega, rfl, rfl, by omega, by omega, fun j hj => by omega⟩
          case round =>
            obtain ⟨k, z, hk, rfl, rfl, hz0, hz1, hall⟩ := hrel
            by_cases hlt : k < sc.length
            · rcases Rc.out with hnil | ⟨b, off, hob, hc⟩
              · rw [hnil] at hlt; simp at hlt
              subst hob
              have hc1 := hc k hlt
              have hs1 := size_getD Zc.out k
              have hall1 : Hid ((sc.getD k ByteArray.empty).size ≤ 1048576 → ∀ j, j < k + 1 → (sc.getD j ByteArray.empty).size ≤ 1048576) := fun h j hj => by
                by_cases e : j = k
                · rw [e]; exact h
                · exact hall.out j (by omega)
              generalize sc.getD k ByteArray.empty = s at hc1 hs1 hall1
              clear hc
              unfold maxLen at hs1
              have hlt' : (k : Int) < (sc.length : Int) := by omega
              by_cases hb1 : (1048576 : Int) < (s.size : Int)
              · go_wp2
                go_ret
                exact ⟨Says.no, rfl⟩
              · by_cases hb2 : (1048576 : Int) < z + (s.size : Int)
                · go_wp2
                  go_ret
                  exact ⟨Says.no, rfl⟩
                · go_wp2
                  go_round
                  case rel => exact ⟨k + 1, _, by omega, by go_num, rfl, by omega, by omega, hall1.out (by omega)⟩
                  case measure => simp [intOf]; omega
            · have hge : ¬ (k : Int) < (sc.length : Int) := by omega
              have Ac : Hid (Small sc) := small_of (by omega) (fun j hj => hall.out j (by omega))
              clear hall
              go_wp2
              go_ret
              exact ⟨Says.yes ⟨Aa.out, Ab.out, Ac.out⟩, rfl⟩
end Go.Proofs.Qxb6617298a
