import Derived.Test.Qxb6617328aObj
namespace Go.Proofs.Qxb6617328a
open Go.RowKit

/-- What find leaves: nil where no member has the key; else the last member that has it. -/
def Found (g : Nat) (ss : List ByteArray) (key : ByteArray) (e : Ending) : Prop :=
  (e = .returned (.pointer none) ∧ ∀ i, i < ss.length → at_ ss i ≠ key) ∨
  ∃ i, e = .returned (.pointer (some ⟨g, i * 3, none⟩)) ∧ i < ss.length ∧ at_ ss i = key ∧ ∀ j, i < j → j < ss.length → at_ ss j ≠ key

theorem IsObj.key {w : World} {p g : Nat} {path : ByteArray} {ss : List ByteArray} (h : IsObj w p g path ss) {i : Nat} (hi : i < ss.length) : w.cell? ⟨g, i * 3, none⟩ = some (.string (at_ ss i)) := by
  have := h.row.key hi
  rwa [if_pos hi] at this

theorem IsObj.qt {w w' : World} {p g : Nat} {path : ByteArray} {ss : List ByteArray} (h : IsObj w p g path ss) (q : Qt w w') : IsObj w' p g path ss := by
  obtain ⟨n, rfl⟩ := q
  exact ⟨h.path, h.mem, h.row, h.lp, h.lg⟩

set_option maxHeartbeats 400000 in
theorem find_few (p g : Nat) (path : ByteArray) (ss : List ByteArray) (key : ByteArray) (w : World) (ho : IsObj w p g path ss) (hn : ss.length ≤ 8) :
    Calls Try.prog 19 #[.pointer (some ⟨p, 0, none⟩), .string key] w fun e w' => Found g ss key e ∧ Qt w w' := by
  have hmem := ho.mem
  have HO : Hid (IsObj w p g path ss) := ho
  clear ho
  have hn8 : ¬ (8 : Int) < (ss.length : Int) := by omega
  go_enter Try.func19, Try.ntmps19
  go_wp2
  go_loop [8] (fun i => ∃ k : Nat, k ≤ ss.length ∧ i = .int .i64 ((k : Int) - 1) ∧ Hid (∀ j, k ≤ j → j < ss.length → at_ ss j ≠ key)) (fun i => ((intOf i) + 1).toNat)
  case atStart => exact ⟨ss.length, by omega, rfl, fun j h1 h2 => by omega⟩
  case round =>
    obtain ⟨k, hk, rfl, hall⟩ := hrel
    rcases k with _ | m
    · have HF : Hid (∀ i, i < ss.length → at_ ss i ≠ key) := fun i hi => hall.out i (Nat.zero_le _) hi
      clear hall
      go_wp2
      go_ret
      exact ⟨.inl ⟨rfl, HF.out⟩, Qt.refl _⟩
    · have e : ((m + 1 : Nat) : Int) - 1 = (m : Int) := by omega
      rw [e]
      clear e
      have hml : (m : Int) < (ss.length : Int) := by omega
      have hc := HO.out.key (i := m) (by omega)
      obtain ⟨s, hs⟩ : ∃ s, s = at_ ss m := ⟨_, rfl⟩
      rw [← hs] at hc
      have HS : Hid (s = at_ ss m) := hs
      clear hs
      by_cases hk2 : s = key
      · have ht : (s.toList == key.toList) = true := (eq_true_iff s key).2 hk2
        have HF : Hid (at_ ss m = key) := by rw [← HS.out]; exact hk2
        clear hk2
        go_wp2
        go_ret
        exact ⟨.inr ⟨m, rfl, by omega, HF.out, fun j h1 h2 => hall.out j (by omega) h2⟩, Qt.refl _⟩
      · have ht : (s.toList == key.toList) = false := (eq_false_iff s key).2 hk2
        have HA : Hid (∀ j, m ≤ j → j < ss.length → at_ ss j ≠ key) := fun j h1 h2 => by
          by_cases e : j = m
          · rw [e, ← HS.out]; exact hk2
          · exact hall.out j (by omega) h2
        clear hk2
        go_wp2
        go_round
        case rel => exact ⟨m, by omega, by go_num, HA.out⟩
        case measure => simp [intOf]

set_option maxHeartbeats 1000000 in
theorem find_many (p g : Nat) (path : ByteArray) (ss : List ByteArray) (key : ByteArray) (w : World) (ho : IsObj w p g path ss) (hn : 8 < ss.length) (hn2 : ss.length ≤ 65536) (hinc : Inc ss) :
    Calls Try.prog 19 #[.pointer (some ⟨p, 0, none⟩), .string key] w fun e w' => Found g ss key e ∧ Qt w w' := by
  have hmem := ho.mem
  have HO : Hid (IsObj w p g path ss) := ho
  have HI : Hid (Inc ss) := hinc
  clear ho hinc
  have hn8 : (8 : Int) < (ss.length : Int) := by omega
  go_enter Try.func19, Try.ntmps19
  go_wp2
  go_quiet (fail)
  go_wp2
  go_loopw [5, 6] (fun l h wr => ∃ lo hi : Nat, lo ≤ hi ∧ hi ≤ ss.length ∧ l = .int .i64 lo ∧ h = .int .i64 hi ∧ Qt w wr ∧ Hid (∀ j, j < lo → Lt (at_ ss j) key) ∧ Hid (∀ j, hi ≤ j → j < ss.length → ¬ Lt (at_ ss j) key)) (fun l h _ => ((intOf h) - (intOf l)).toNat)
  case atStart => exact ⟨0, ss.length, by omega, by omega, rfl, rfl, (Qt.refl _).drewN _, fun j h => by omega, fun j h1 h2 => by omega⟩
  case round =>
    obtain ⟨lo, hi, h1, h2, rfl, rfl, hq, hlo, hhi⟩ := hrel
    by_cases hlt : lo < hi
    · have hlt' : (lo : Int) < (hi : Int) := by omega
      have hO := HO.out.qt hq
      have hmem2 := hO.mem
      have hm1 : lo ≤ (lo + hi) / 2 := by omega
      have hm2 : (lo + hi) / 2 < hi := by omega
      have hc := hO.key (i := (lo + hi) / 2) (by omega)
      obtain ⟨s, hs⟩ : ∃ s, s = at_ ss ((lo + hi) / 2) := ⟨_, rfl⟩
      rw [← hs] at hc
      have HS : Hid (s = at_ ss ((lo + hi) / 2)) := hs
      clear hs hO
      by_cases hk : Lt s key
      · have ht : Op.bytesLess s.toList key.toList = true := (less_iff s key).2 hk
        have HA : Hid (∀ j, j < (lo + hi) / 2 + 1 → Lt (at_ ss j) key) := fun j hj => by
          by_cases e : j = (lo + hi) / 2
          · rw [e, ← HS.out]; exact hk
          · have := HI.out j ((lo + hi) / 2) (by omega) (by omega)
            rw [← HS.out] at this
            exact this.trans hk
        clear hk
        go_wp2
        go_roundw
        case rel => exact ⟨(lo + hi) / 2 + 1, hi, by omega, by omega, congrArg (Value.int .i64) (by omega), rfl, hq, HA.out, hhi.out⟩
        case measure => simp [intOf]; omega
      · have ht : Op.bytesLess s.toList key.toList = false := (less_false s key).2 hk
        have HA : Hid (∀ j, (lo + hi) / 2 ≤ j → j < ss.length → ¬ Lt (at_ ss j) key) := fun j h1 h2 => by
          by_cases e : j = (lo + hi) / 2
          · rw [e, ← HS.out]; exact hk
          · intro hj
            have := HI.out ((lo + hi) / 2) j (by omega) h2
            rw [← HS.out] at this
            exact hk (this.trans hj)
        clear hk
        go_wp2
        go_roundw
        case rel => exact ⟨lo, (lo + hi) / 2, by omega, by omega, rfl, congrArg (Value.int .i64) (by omega), hq, hlo.out, HA.out⟩
        case measure => simp [intOf]; omega
    · have hlt' : ¬ (lo : Int) < (hi : Int) := by omega
      obtain rfl : lo = hi := by omega
      have hO := HO.out.qt hq
      have hmem2 := hO.mem
      by_cases hend : lo = ss.length
      · have hend' : ((lo : Int) == (ss.length : Int)) = true := beq_iff_eq.2 (by omega)
        have HF : Hid (∀ i, i < ss.length → at_ ss i ≠ key) := fun i hi => (hlo.out i (by omega)).ne
        clear hend hlo hhi hO
        go_wp2
        go_ret
        exact ⟨.inl ⟨rfl, HF.out⟩, hq⟩
      · have hend' : ((lo : Int) == (ss.length : Int)) = false := beq_eq_false_iff_ne.2 (by omega)
        have hll : (lo : Int) < (ss.length : Int) := by omega
        have hc := hO.key (i := lo) (by omega)
        obtain ⟨s, hs⟩ : ∃ s, s = at_ ss lo := ⟨_, rfl⟩
        rw [← hs] at hc
        have HS : Hid (s = at_ ss lo) := hs
        clear hs hO
        by_cases hk : s = key
        · have ht : (s.toList == key.toList) = true := (eq_true_iff s key).2 hk
          have ht2 : (s.toList != key.toList) = false := by rw [bne, ht]; rfl
          have HK : Hid (at_ ss lo = key) := by rw [← HS.out]; exact hk
          have HF : Hid (∀ j, lo < j → j < ss.length → at_ ss j ≠ key) := fun j h1 h2 => by
            have := HI.out lo j h1 h2
            rw [HK.out] at this
            exact fun e => this.ne e.symm
          clear hk hend hlo hhi
          go_wp2
          go_ret
          exact ⟨.inr ⟨lo, rfl, by omega, HK.out, HF.out⟩, hq⟩
        · have ht : (s.toList == key.toList) = false := (eq_false_iff s key).2 hk
          have ht2 : (s.toList != key.toList) = true := by rw [bne, ht]; rfl
          have HF : Hid (∀ i, i < ss.length → at_ ss i ≠ key) := fun i hi => by
            by_cases h : i < lo
            · exact (hlo.out i h).ne
            · have h3 := lt_of_not (hhi.out lo (by omega) (by omega)) (by rw [← HS.out]; exact hk)
              by_cases e : i = lo
              · rw [e, ← HS.out]; exact hk
              · have h4 := HI.out lo i (by omega) hi
                exact fun e => (h3.trans h4).ne e.symm
          clear hk hend hlo hhi
          go_wp2
          go_ret
          exact ⟨.inl ⟨rfl, HF.out⟩, hq⟩

/-- find on the object of keys, in its documented domain. -/
theorem find_any (p g : Nat) (path : ByteArray) (ss : List ByteArray) (key : ByteArray) (w : World) (ho : IsObj w p g path ss) (hn2 : ss.length ≤ 65536) (hinc : 8 < ss.length → Inc ss) :
    Calls Try.prog 19 #[.pointer (some ⟨p, 0, none⟩), .string key] w fun e w' => Found g ss key e ∧ Qt w w' := by
  by_cases h : 8 < ss.length
  · exact find_many p g path ss key w ho h hn2 (hinc h)
  · exact find_few p g path ss key w ho (by omega)
end Go.Proofs.Qxb6617328a
