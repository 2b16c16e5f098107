import Derived.Test.Qxb6617298aCr4
import Derived.Lib.SlicesCompact
import Derived.Sort.Walk0
namespace Go.Proofs.Qxb6617298a

/-! ### slices.Compact behind slices.Sort: strictly increasing, the same members -/
section
open Go.Lib
theorem compact_inv (d : Array (List UInt8)) (hs : ∀ j, j + 1 < d.size → d[j]! ≤ d[j + 1]!) (m : Nat) (hm : m ≤ d.size) :
    (compactUpTo d m).Pairwise (· < ·) ∧ (∀ x ∈ compactUpTo d m, 0 < m ∧ x ≤ d[m - 1]!) ∧ (∀ j, j < m → d[j]! ∈ compactUpTo d m) ∧ (∀ x ∈ compactUpTo d m, ∃ j, j < m ∧ x = d[j]!) := by
  induction m with
  | zero => exact ⟨by simp [compactUpTo], by simp [compactUpTo], fun j hj => by omega, by simp [compactUpTo]⟩
  | succ m ih =>
    obtain ⟨h1, h2, h3, h4⟩ := ih (by omega)
    rw [compactUpTo_succ]
    by_cases hk : keeps d m = true
    · rw [if_pos hk]
      have hlt : ∀ x ∈ compactUpTo d m, x < d[m]! := by
        intro x hx
        obtain ⟨hm0, hle⟩ := h2 x hx
        have hne : d[m - 1]! ≠ d[m]! := by
          have := of_decide_eq_true hk
          rcases this with h | h
          · omega
          · exact fun e => h e.symm
        have hle2 := hs (m - 1) (by omega)
        rw [show m - 1 + 1 = m by omega] at hle2
        exact List.lt_of_le_of_lt hle (Std.lt_of_le_of_ne hle2 hne)
      refine ⟨?_, ?_, ?_, ?_⟩
      · rw [List.pairwise_append]
        refine ⟨h1, by simp, ?_⟩
        intro a ha b hb
        simp only [List.mem_singleton] at hb
        rw [hb]
        exact hlt a ha
      · intro x hx
        rw [Nat.add_sub_cancel]
        refine ⟨by omega, ?_⟩
        rcases List.mem_append.1 hx with h | h
        · exact List.le_of_lt (hlt x h)
        · simp only [List.mem_singleton] at h
          rw [h]
          exact List.le_refl _
      · intro j hj
        by_cases e : j = m
        · subst e; simp
        · exact List.mem_append.2 (.inl (h3 j (by omega)))
      · intro x hx
        rcases List.mem_append.1 hx with h | h
        · obtain ⟨j, hj, e⟩ := h4 x h
          exact ⟨j, by omega, e⟩
        · simp only [List.mem_singleton] at h
          exact ⟨m, by omega, h⟩
    · rw [if_neg hk, List.append_nil]
      have hk' : ¬ (m = 0 ∨ d[m]! ≠ d[m - 1]!) := fun h => hk (decide_eq_true h)
      have hm0 : m ≠ 0 := fun h => hk' (.inl h)
      have he : d[m]! = d[m - 1]! := Decidable.byContradiction fun h => hk' (.inr h)
      refine ⟨h1, ?_, ?_, ?_⟩
      · intro x hx
        rw [Nat.add_sub_cancel, he]
        exact ⟨by omega, (h2 x hx).2⟩
      · intro j hj
        by_cases e : j = m
        · subst e; rw [he]; exact h3 (j - 1) (by omega)
        · exact h3 j (by omega)
      · intro x hx
        obtain ⟨j, hj, e⟩ := h4 x hx
        exact ⟨j, by omega, e⟩

theorem sorted_le (l : List (List UInt8)) : ∀ j, j + 1 < (l.mergeSort fun x y => decide (x ≤ y)).toArray.size → (l.mergeSort fun x y => decide (x ≤ y)).toArray[j]! ≤ (l.mergeSort fun x y => decide (x ≤ y)).toArray[j + 1]! := by
  intro j hj
  have hp := List.pairwise_mergeSort (le := fun (x y : List UInt8) => decide (x ≤ y))
    (fun a b c h1 h2 => decide_eq_true (List.le_trans (of_decide_eq_true h1) (of_decide_eq_true h2)))
    (fun a b => by rcases List.le_total a b with h | h <;> simp [h]) l
  generalize l.mergeSort (fun x y => decide (x ≤ y)) = s at *
  have hj' : j + 1 < s.length := by simpa using hj
  have := List.pairwise_iff_getElem.1 hp j (j + 1) (by omega) hj' (by omega)
  rw [getElem!_pos s.toArray j (by simp; omega), getElem!_pos s.toArray (j + 1) hj]
  simpa using of_decide_eq_true this

/-- The distinct members, sorted. -/
def distinct (l : List (List UInt8)) : List (List UInt8) := Lib.compact (l.mergeSort fun x y => decide (x ≤ y))

theorem distinct_lt (l : List (List UInt8)) : (distinct l).Pairwise (· < ·) := by
  have h := (compact_inv _ (sorted_le l) _ (Nat.le_refl _)).1
  simpa [distinct, compact] using h

theorem mem_distinct (l : List (List UInt8)) (x : List UInt8) : x ∈ distinct l ↔ x ∈ l := by
  have h := compact_inv _ (sorted_le l) _ (Nat.le_refl _)
  have hm : ∀ y, y ∈ l.mergeSort (fun x y => decide (x ≤ y)) ↔ y ∈ l := fun y => (List.mergeSort_perm l _).mem_iff
  have e : distinct l = compactUpTo (l.mergeSort fun x y => decide (x ≤ y)).toArray (l.mergeSort fun x y => decide (x ≤ y)).toArray.size := by simp [distinct, compact]
  rw [e]
  rw [← hm x]
  generalize l.mergeSort (fun x y => decide (x ≤ y)) = s at *
  constructor
  · intro hx
    obtain ⟨j, hj, rfl⟩ := h.2.2.2 x hx
    rw [getElem!_pos s.toArray j hj]
    simp
  · intro hx
    obtain ⟨j, hj, rfl⟩ := List.getElem_of_mem hx
    have := h.2.2.1 j (by simpa using hj)
    rw [getElem!_pos s.toArray j (by simpa using hj)] at this
    simpa using this

theorem distinct_length (l : List (List UInt8)) : (distinct l).length ≤ l.length := by
  have h : ∀ (d : Array (List UInt8)) (m : Nat), (compactUpTo d m).length ≤ m := by
    intro d m
    induction m with
    | zero => simp [compactUpTo]
    | succ m ih =>
      rw [compactUpTo_succ, List.length_append]
      split <;> simp <;> omega
  have := h (l.mergeSort fun x y => decide (x ≤ y)).toArray (l.mergeSort fun x y => decide (x ≤ y)).length
  simpa [distinct, compact] using this
end

/-! ### the products -/
def bytes (s : ByteArray) : List UInt8 := s.data.toList
def ofBytes (l : List UInt8) : ByteArray := ⟨l.toArray⟩
theorem bytes_of (l : List UInt8) : bytes (ofBytes l) = l := rfl
theorem of_bytes (s : ByteArray) : ofBytes (bytes s) = s := by
  obtain ⟨⟨l⟩⟩ := s
  rfl

def rowTo (x : ByteArray) (sb : List ByteArray) : Nat → List ByteArray
  | 0 => []
  | t + 1 => rowTo x sb t ++ [x ++ at_ sb t]
def prodTo (sa sb : List ByteArray) : Nat → List ByteArray
  | 0 => []
  | k + 1 => prodTo sa sb k ++ rowTo (at_ sa k) sb sb.length

theorem rowTo_length (x : ByteArray) (sb : List ByteArray) (t : Nat) : (rowTo x sb t).length = t := by
  induction t with
  | zero => rfl
  | succ t ih => simp [rowTo, ih]
theorem prodTo_length (sa sb : List ByteArray) (k : Nat) : (prodTo sa sb k).length = k * sb.length := by
  induction k with
  | zero => simp [prodTo]
  | succ k ih => simp [prodTo, ih, rowTo_length, Nat.succ_mul]
theorem mem_rowTo (x : ByteArray) (sb : List ByteArray) (t : Nat) (y : ByteArray) : y ∈ rowTo x sb t ↔ ∃ j, j < t ∧ y = x ++ at_ sb j := by
  induction t with
  | zero => simp [rowTo]
  | succ t ih =>
    simp only [rowTo, List.mem_append, List.mem_singleton, ih]
    constructor
    · rintro (⟨j, hj, e⟩ | e)
      · exact ⟨j, by omega, e⟩
      · exact ⟨t, by omega, e⟩
    · rintro ⟨j, hj, e⟩
      by_cases h : j = t
      · subst h; exact .inr e
      · exact .inl ⟨j, by omega, e⟩
theorem mem_prodTo (sa sb : List ByteArray) (k : Nat) (y : ByteArray) : y ∈ prodTo sa sb k ↔ ∃ i j, i < k ∧ j < sb.length ∧ y = at_ sa i ++ at_ sb j := by
  induction k with
  | zero => simp [prodTo]
  | succ k ih =>
    simp only [prodTo, List.mem_append, ih, mem_rowTo]
    constructor
    · rintro (⟨i, j, hi, hj, e⟩ | ⟨j, hj, e⟩)
      · exact ⟨i, j, by omega, hj, e⟩
      · exact ⟨k, j, by omega, hj, e⟩
    · rintro ⟨i, j, hi, hj, e⟩
      by_cases h : i = k
      · subst h; exact .inr ⟨j, hj, e⟩
      · exact .inl ⟨i, j, by omega, hj, e⟩

/-- What crossStrings hands back where it does not refuse. -/
def gotOf (sa sb : List ByteArray) : List ByteArray := (distinct ((prodTo sa sb sa.length).map bytes)).map ofBytes

theorem at_mem {ss : List ByteArray} {i : Nat} (h : i < ss.length) : at_ ss i ∈ ss := by
  have e : at_ ss i = ss[i] := by simp [at_, List.getD, h]
  rw [e]; exact List.getElem_mem _

theorem append_bytes (x y : ByteArray) : bytes (x ++ y) = bytes x ++ bytes y := by
  simp [bytes]

theorem mem_gotOf (sa sb : List ByteArray) (y : ByteArray) : y ∈ gotOf sa sb ↔ ∃ i j, i < sa.length ∧ j < sb.length ∧ y = at_ sa i ++ at_ sb j := by
  rw [← mem_prodTo]
  unfold gotOf
  constructor
  · intro h
    obtain ⟨l, hl, rfl⟩ := List.mem_map.1 h
    obtain ⟨s, hs, rfl⟩ := List.mem_map.1 ((mem_distinct _ _).1 hl)
    rw [of_bytes]; exact hs
  · intro h
    exact List.mem_map.2 ⟨bytes y, (mem_distinct _ _).2 (List.mem_map.2 ⟨y, h, rfl⟩), of_bytes y⟩

theorem got_length (sa sb : List ByteArray) : (gotOf sa sb).length ≤ sa.length * sb.length := by
  unfold gotOf
  rw [List.length_map]
  refine Nat.le_trans (distinct_length _) ?_
  rw [List.length_map, prodTo_length]
  exact Nat.le_refl _

theorem got_sorted (sa sb : List ByteArray) (i : Nat) (h : i + 1 < (gotOf sa sb).length) : Op.bytesLess (at_ (gotOf sa sb) i).toList (at_ (gotOf sa sb) (i + 1)).toList = true := by
  have hp := distinct_lt ((prodTo sa sb sa.length).map bytes)
  rw [bytesLess_eq, Lib.toList_data, Lib.toList_data]
  apply decide_eq_true
  unfold gotOf at *
  generalize distinct ((prodTo sa sb sa.length).map bytes) = s at *
  have hl : i + 1 < s.length := by simpa using h
  have := List.pairwise_iff_getElem.1 hp i (i + 1) (by omega) hl (by omega)
  have e1 : at_ (s.map ofBytes) i = ofBytes s[i] := by simp [at_, List.getD, show i < s.length by omega]
  have e2 : at_ (s.map ofBytes) (i + 1) = ofBytes s[i + 1] := by simp [at_, List.getD, hl]
  rw [e1, e2]
  exact this

theorem isJoin_mk (p q : ByteArray) (s : ByteArray) (hs : bytes s = []) : isJoin (p ++ q) p q s = true := by
  unfold isJoin
  have := append_bytes p q
  unfold bytes at this hs
  rw [this, hs]
  simp
end Go.Proofs.Qxb6617298a
