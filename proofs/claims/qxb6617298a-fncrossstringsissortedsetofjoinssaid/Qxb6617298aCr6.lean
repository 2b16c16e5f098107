import Derived.Test.Qxb6617298aCr5
namespace Go.Proofs.Qxb6617298a
open Go.RowKit

set_option maxHeartbeats 2000000 in
theorem bytes_cross (oa : Option Addr) (ca : Nat) (sa : List ByteArray) (ob : Option Addr) (cb : Nat) (sb : List ByteArray) (w : World)
    (na : sa.length ≤ maxLen) (za : ∀ s ∈ sa, s.size ≤ maxLen) (ra : StrRow w oa sa)
    (nb : sb.length ≤ maxLen) (zb : ∀ s ∈ sb, s.size ≤ maxLen) (rb : StrRow w ob sb) :
    Calls Try.prog 5 #[.slice oa sa.length ca, .slice ob sb.length cb] w fun e w' => Says e (Small sa ∧ Small sb) ∧ w' = w := by
  have Za : Hid (∀ s ∈ sa, s.size ≤ maxLen) := za
  have Ra : Hid (StrRow w oa sa) := ra
  clear za ra
  unfold maxLen at na
  have Zb : Hid (∀ s ∈ sb, s.size ≤ maxLen) := zb
  have Rb : Hid (StrRow w ob sb) := rb
  clear zb rb
  unfold maxLen at nb
  by_cases ba : (1048576 : Int) < (sa.length : Int)
  · go_enter Try.func5, Try.ntmps5
    go_wp2
    go_ret
    exact ⟨Says.no, rfl⟩
  go_enter Try.func5, Try.ntmps5
  go_wp2
  go_loop [5, 6] (fun t i => ∃ (k : Nat) (z : Int), k ≤ sa.length ∧ i = .int .i64 k ∧ t = .int .i64 z ∧ 0 ≤ z ∧ z ≤ 1048576 ∧ Hid (∀ j, j < k → (sa.getD j ByteArray.empty).size ≤ 1048576)) (fun _ i => sa.length - (intOf i).toNat)
  case atStart => exact ⟨0, _, by omega, rfl, rfl, by omega, by omega, fun j hj => by omega⟩
  case round =>
    obtain ⟨k, z, hk, rfl, rfl, hz0, hz1, hall⟩ := hrel
    by_cases hlt : k < sa.length
    · rcases Ra.out with hnil | ⟨b, off, hob, hc⟩
      · rw [hnil] at hlt; simp at hlt
      subst hob
      have hc1 := hc k hlt
      have hs1 := size_getD Za.out k
      have hall1 : Hid ((sa.getD k ByteArray.empty).size ≤ 1048576 → ∀ j, j < k + 1 → (sa.getD j ByteArray.empty).size ≤ 1048576) := fun h j hj => by
        by_cases e : j = k
        · rw [e]; exact h
        · exact hall.out j (by omega)
      generalize sa.getD k ByteArray.empty = s at hc1 hs1 hall1
      clear hc
      unfold maxLen at hs1
      have hlt' : (k : Int) < (sa.length : Int) := by omega
      by_cases hb1 : (1048576 : Int) < (s.size : Int)
      · go_wp2
        go_ret
        exact ⟨Says.no, rfl⟩
      · by_cases hb2 : (1048576 : Int) < z + (s.size : Int)
        · go_wp2
          go_ret
          exact ⟨Says.no, rfl⟩
        · go_wp2
          go_round
          case rel => exact ⟨k + 1, _, by omega, by go_num, rfl, by omega, by omega, hall1.out (by omega)⟩
          case measure => simp [intOf]; omega
    · have hge : ¬ (k : Int) < (sa.length : Int) := by omega
      have Aa : Hid (Small sa) := small_of (by omega) (fun j hj => hall.out j (by omega))
      clear hall
      by_cases bb : (1048576 : Int) < (sb.length : Int)
      · go_wp2
        go_ret
        exact ⟨Says.no, rfl⟩
      by_cases db : (1048576 : Int) < z + (sb.length : Int)
      · go_wp2
        go_ret
        exact ⟨Says.no, rfl⟩
      go_wp2
      go_loop [5, 7] (fun t i => ∃ (k : Nat) (z : Int), k ≤ sb.length ∧ i = .int .i64 k ∧ t = .int .i64 z ∧ 0 ≤ z ∧ z ≤ 1048576 ∧ Hid (∀ j, j < k → (sb.getD j ByteArray.empty).size ≤ 1048576)) (fun _ i => sb.length - (intOf i).toNat)
      case atStart => exact ⟨0, _, by omega, rfl, rfl, by omega, by omega, fun j hj => by omega⟩
      case round =>
        obtain ⟨k, z, hk, rfl, rfl, hz0, hz1, hall⟩ := hrel
        by_cases hlt : k < sb.length
        · rcases Rb.out with hnil | ⟨b, off, hob, hc⟩
          · rw [hnil] at hlt; simp at hlt
          subst hob
          have hc1 := hc k hlt
          have hs1 := size_getD Zb.out k
          have hall1 : Hid ((sb.getD k ByteArray.empty).size ≤ 1048576 → ∀ j, j < k + 1 → (sb.getD j ByteArray.empty).size ≤ 1048576) := fun h j hj => by
            by_cases e : j = k
            · rw [e]; exact h
            · exact hall.out j (by omega)
          generalize sb.getD k ByteArray.empty = s at hc1 hs1 hall1
          clear hc
          unfold maxLen at hs1
          have hlt' : (k : Int) < (sb.length : Int) := by omega
          by_cases hb1 : (1048576 : Int) < (s.size : Int)
          · go_wp2
            go_ret
            exact ⟨Says.no, rfl⟩
          · by_cases hb2 : (1048576 : Int) < z + (s.size : Int)
            · go_wp2
              go_ret
              exact ⟨Says.no, rfl⟩
            · go_wp2
              go_round
              case rel => exact ⟨k + 1, _, by omega, by go_num, rfl, by omega, by omega, hall1.out (by omega)⟩
              case measure => simp [intOf]; omega
        · have hge : ¬ (k : Int) < (sb.length : Int) := by omega
          have Ab : Hid (Small sb) := small_of (by omega) (fun j hj => hall.out j (by omega))
          clear hall
          go_wp2
          go_ret
          exact ⟨Says.yes ⟨Aa.out, Ab.out⟩, rfl⟩

/-- What ZZCrossStrings leaves. -/
def Result (sa sb : List ByteArray) (e : Ending) (w' : World) : Prop :=
  ((64 < sa.length * sb.length ∨ ¬ Fits sa sb) ∧ e = .returned (.slice none 0 0)) ∨
  ((sa.length * sb.length ≤ 64 ∧ Fits sa sb) ∧ ∃ g c, e = .returned (.slice (some ⟨g, 0, none⟩) (gotOf sa sb).length c) ∧ g < w'.heap.size ∧ Cells w' g 0 (gotOf sa sb))

theorem cross_all (oa : Option Addr) (ca : Nat) (sa : List ByteArray) (ob : Option Addr) (cb : Nat) (sb : List ByteArray) (w : World) (ra : Row w oa sa) (rb : Row w ob sb) (na : sa.length ≤ 4096) (nb : sb.length ≤ 4096) :
    Calls Try.prog 14 #[.slice oa sa.length ca, .slice ob sb.length cb] w fun e w' => Result sa sb e w' ∧ Below w.heap.size w w' := by
  by_cases hbig : 64 < sa.length * sb.length
  · refine (cross_big oa ca sa ob cb sb w _ rfl hbig (Nat.mul_le_mul na nb)).mono ?_
    rintro e w' ⟨rfl, rfl⟩
    exact ⟨.inl ⟨.inl hbig, rfl⟩, Below.refl _ _⟩
  · refine (cross_any oa ca sa ob cb sb w _ rfl (by omega) ra rb).mono ?_
    rintro e w' ⟨⟨h1, h2⟩ | ⟨h1, h2⟩, hb⟩
    · exact ⟨.inl ⟨.inr h1, h2⟩, hb⟩
    · exact ⟨.inr ⟨⟨by omega, h1⟩, h2⟩, hb⟩

set_option maxHeartbeats 400000 in
theorem zzcross_any (oa : Option Addr) (ca : Nat) (sa : List ByteArray) (ob : Option Addr) (cb : Nat) (sb : List ByteArray) (w : World) (ra : Row w oa sa) (rb : Row w ob sb) (na : sa.length ≤ 4096) (nb : sb.length ≤ 4096) :
    Calls Try.prog 7 #[.slice oa sa.length ca, .slice ob sb.length cb] w fun e w' => Result sa sb e w' ∧ Below w.heap.size w w' := by
  have hcon := cross_all oa ca sa ob cb sb w ra rb na nb
  clear ra rb
  go_enter Try.func7, Try.ntmps7
  go_wp2_with fail
  refine hcon.mono ?_
  clear hcon
  rintro e w1 ⟨hr, hb⟩
  rcases hr with ⟨h1, rfl⟩ | ⟨h1, g, c, rfl, h2, h3⟩
  · have H1 : Hid (64 < sa.length * sb.length ∨ ¬ Fits sa sb) := h1
    clear h1
    go_wp2
    go_ret
    exact ⟨.inl ⟨H1.out, rfl⟩, hb⟩
  · have H1 : Hid (sa.length * sb.length ≤ 64 ∧ Fits sa sb) := h1
    have H3 : Hid (Cells w1 g 0 (gotOf sa sb)) := h3
    clear h1 h3
    go_wp2
    go_ret
    exact ⟨.inr ⟨H1.out, g, c, rfl, h2, H3.out⟩, hb⟩

theorem not_fits {sa sb : List ByteArray} (h : ¬ Fits sa sb) : 0 < sa.length ∧ 0 < sb.length ∧ 256 < maxl sa sa.length + maxl sb sb.length := by
  refine Decidable.byContradiction fun hn => h fun i j hi hj => ?_
  have h1 := le_maxl sa sa.length i hi
  have h2 := le_maxl sb sb.length j hj
  omega

theorem fits_max {sa sb : List ByteArray} (h : Fits sa sb) (ha : 0 < sa.length) (hb : 0 < sb.length) : maxl sa sa.length + maxl sb sb.length ≤ 256 := by
  obtain ⟨i, hi, e1⟩ := maxl_at sa sa.length ha
  obtain ⟨j, hj, e2⟩ := maxl_at sb sb.length hb
  rw [← e1, ← e2]
  exact h i j hi hj

theorem got_small {sa sb : List ByteArray} (h : Fits sa sb) : ∀ s ∈ gotOf sa sb, s.size ≤ 1048576 := by
  intro s hs
  obtain ⟨i, j, hi, hj, rfl⟩ := (mem_gotOf sa sb s).1 hs
  have := h i j hi hj
  rw [ByteArray.size_append]
  omega
end Go.Proofs.Qxb6617298a
