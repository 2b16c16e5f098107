import Derived.Test.Qxb6617328aBase
namespace Go.Proofs.Qxb6617328a

def IsLast (ss : List ByteArray) (i : Nat) : Prop := ∀ j, i < j → j < ss.length → at_ ss j ≠ at_ ss i

/-- What has been gathered of the first k members. -/
structure Kept (ss : List ByteArray) (k : Nat) (xs : List ByteArray) : Prop where
  len : xs.length ≤ k
  src : ∀ x ∈ xs, ∃ i, i < k ∧ x = at_ ss i ∧ IsLast ss i
  all : ∀ i, i < k → IsLast ss i → at_ ss i ∈ xs
  nodup : xs.Pairwise (· ≠ ·)
  inc : Inc ss → xs.Pairwise Lt ∧ xs.length = k

theorem Kept.start (ss : List ByteArray) : Kept ss 0 [] := ⟨Nat.le_refl _, by simp, fun i h => by omega, by simp, fun _ => ⟨by simp, rfl⟩⟩

theorem Kept.skip {ss xs : List ByteArray} {k : Nat} (h : Kept ss k xs) (hk : k < ss.length) (hn : ∃ j, k < j ∧ j < ss.length ∧ at_ ss j = at_ ss k) : Kept ss (k + 1) xs := by
  obtain ⟨j, hj1, hj2, he⟩ := hn
  refine ⟨by have := h.len; omega, fun x hx => ?_, fun i hi hl => ?_, h.nodup, fun hinc => ?_⟩
  · obtain ⟨i, hi, e⟩ := h.src x hx
    exact ⟨i, by omega, e⟩
  · by_cases e : i = k
    · subst e; exact absurd he (hl j hj1 hj2)
    · exact h.all i (by omega) hl
  · exact absurd he.symm (hinc k j hj1 hj2).ne

theorem Kept.push {ss xs : List ByteArray} {k : Nat} (h : Kept ss k xs) (hk : k < ss.length) (hl : IsLast ss k) : Kept ss (k + 1) (xs ++ [at_ ss k]) := by
  refine ⟨by rw [List.length_append]; have := h.len; simp; omega, fun x hx => ?_, fun i hi hli => ?_, ?_, fun hinc => ⟨?_, ?_⟩⟩
  · rcases List.mem_append.1 hx with hx | hx
    · obtain ⟨i, hi, e⟩ := h.src x hx
      exact ⟨i, by omega, e⟩
    · rw [List.mem_singleton] at hx
      exact ⟨k, by omega, hx, hl⟩
  · by_cases e : i = k
    · subst e; simp
    · exact List.mem_append.2 (.inl (h.all i (by omega) hli))
  · rw [List.pairwise_append]
    refine ⟨h.nodup, by simp, fun x hx y hy => ?_⟩
    rw [List.mem_singleton] at hy
    obtain ⟨i, hi, e, hli⟩ := h.src x hx
    rw [hy, e]
    exact fun e2 => hli k hi hk e2.symm
  · rw [List.pairwise_append]
    refine ⟨(h.inc hinc).1, by simp, fun x hx y hy => ?_⟩
    rw [List.mem_singleton] at hy
    obtain ⟨i, hi, e, hli⟩ := h.src x hx
    rw [hy, e]
    exact hinc i k hi hk
  · rw [List.length_append, (h.inc hinc).2]; rfl

/-- The object's distinct keys, sorted. -/
structure Good (ss F : List ByteArray) : Prop where
  len : F.length ≤ ss.length
  inc : Inc F
  src : ∀ x ∈ F, ∃ i, i < ss.length ∧ x = at_ ss i
  all : ∀ i, i < ss.length → at_ ss i ∈ F

theorem Kept.every {ss xs : List ByteArray} (h : Kept ss ss.length xs) : ∀ d i, ss.length - i ≤ d → i < ss.length → at_ ss i ∈ xs := by
  intro d
  induction d with
  | zero => intro i h1 h2; omega
  | succ d ih =>
    intro i h1 h2
    by_cases hl : IsLast ss i
    · exact h.all i h2 hl
    · have : ∃ j, i < j ∧ j < ss.length ∧ at_ ss j = at_ ss i := by
        refine Classical.byContradiction fun hn => hl fun j hj1 hj2 he => hn ⟨j, hj1, hj2, he⟩
      obtain ⟨j, hj1, hj2, he⟩ := this
      rw [← he]
      exact ih j (by omega) hj2

theorem inc_of_pairwise {F : List ByteArray} (h : F.Pairwise Lt) : Inc F := by
  intro i j hij hj
  have := List.pairwise_iff_getElem.1 h i j (by omega) hj hij
  have e1 : at_ F i = F[i] := by simp [at_, List.getD, show i < F.length by omega]
  have e2 : at_ F j = F[j] := by simp [at_, List.getD, hj]
  rw [e1, e2]
  exact this

theorem good_many {ss xs : List ByteArray} (h : Kept ss ss.length xs) (hinc : Inc ss) : Good ss xs :=
  ⟨h.len, inc_of_pairwise (h.inc hinc).1, fun x hx => by obtain ⟨i, hi, e, _⟩ := h.src x hx; exact ⟨i, hi, e⟩, fun i hi => h.every _ i (Nat.le_refl _) hi⟩

def bytes (s : ByteArray) : List UInt8 := s.data.toList
def ofBytes (l : List UInt8) : ByteArray := ⟨l.toArray⟩
theorem of_bytes (s : ByteArray) : ofBytes (bytes s) = s := by
  obtain ⟨⟨l⟩⟩ := s
  rfl
theorem bytes_inj {a b : ByteArray} (h : bytes a = bytes b) : a = b := by rw [← of_bytes a, h, of_bytes]

/-- The sorted list. -/
def sorted (xs : List ByteArray) : List ByteArray := ((xs.map bytes).mergeSort fun x y => decide (x ≤ y)).map ofBytes

theorem sorted_length (xs : List ByteArray) : (sorted xs).length = xs.length := by simp [sorted]
theorem mem_sorted (xs : List ByteArray) (x : ByteArray) : x ∈ sorted xs ↔ x ∈ xs := by
  unfold sorted
  rw [List.mem_map]
  constructor
  · rintro ⟨l, hl, rfl⟩
    have := (List.mergeSort_perm (xs.map bytes) _).mem_iff.1 hl
    obtain ⟨s, hs, rfl⟩ := List.mem_map.1 this
    rw [of_bytes]; exact hs
  · intro h
    exact ⟨bytes x, (List.mergeSort_perm (xs.map bytes) _).mem_iff.2 (List.mem_map.2 ⟨x, h, rfl⟩), of_bytes x⟩

theorem sorted_inc {xs : List ByteArray} (hnd : xs.Pairwise (· ≠ ·)) : Inc (sorted xs) := by
  apply inc_of_pairwise
  have hp := List.pairwise_mergeSort (le := fun (x y : List UInt8) => decide (x ≤ y))
    (fun a b c h1 h2 => decide_eq_true (List.le_trans (of_decide_eq_true h1) (of_decide_eq_true h2)))
    (fun a b => by rcases List.le_total a b with h | h <;> simp [h]) (xs.map bytes)
  have hnd1 : (xs.map bytes).Pairwise (· ≠ ·) := by
    rw [List.pairwise_map]
    rw [List.pairwise_iff_getElem] at hnd ⊢
    intro i j hi hj hij e
    exact hnd i j hi hj hij (bytes_inj e)
  have hnd2 : ((xs.map bytes).mergeSort fun x y => decide (x ≤ y)).Pairwise (· ≠ ·) :=
    ((List.mergeSort_perm (xs.map bytes) _).pairwise_iff (fun h e => h e.symm)).2 hnd1
  unfold sorted
  rw [List.pairwise_map]
  generalize (xs.map bytes).mergeSort (fun x y => decide (x ≤ y)) = s at hp hnd2
  rw [List.pairwise_iff_getElem] at hp hnd2 ⊢
  intro i j hi hj hij
  have h1 := of_decide_eq_true (hp i j hi hj hij)
  have h2 := hnd2 i j hi hj hij
  exact Std.lt_of_le_of_ne h1 h2

theorem good_few {ss xs : List ByteArray} (h : Kept ss ss.length xs) : Good ss (sorted xs) :=
  ⟨by rw [sorted_length]; exact h.len, sorted_inc h.nodup, fun x hx => by obtain ⟨i, hi, e, _⟩ := h.src x ((mem_sorted xs x).1 hx); exact ⟨i, hi, e⟩, fun i hi => (mem_sorted xs _).2 (h.every _ i (Nat.le_refl _) hi)⟩
end Go.Proofs.Qxb6617328a
