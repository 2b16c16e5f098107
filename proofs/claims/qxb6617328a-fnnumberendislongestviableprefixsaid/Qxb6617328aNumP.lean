import Derived.Test.Qxb6617328aProg
/- THE PLAIN LAW: the automaton of the JSON number grammar, and the reader by parts: no Go in sight. A text is a list of bytes' values. -/
namespace Go.Proofs.Qxb6617328a

/-- The automaton's step; none: dead. -/
def tr (s c : Nat) : Option Nat :=
  match s with
  | 0 => if c = 45 then some 1 else if c = 48 then some 2 else if 48 ≤ c ∧ c ≤ 57 then some 3 else none
  | 1 => if c = 48 then some 2 else if 48 ≤ c ∧ c ≤ 57 then some 3 else none
  | 2 => if c = 46 then some 4 else if c = 101 ∨ c = 69 then some 6 else none
  | 3 => if 48 ≤ c ∧ c ≤ 57 then some 3 else if c = 46 then some 4 else if c = 101 ∨ c = 69 then some 6 else none
  | 4 => if 48 ≤ c ∧ c ≤ 57 then some 5 else none
  | 5 => if 48 ≤ c ∧ c ≤ 57 then some 5 else if c = 101 ∨ c = 69 then some 6 else none
  | 6 => if c = 43 ∨ c = 45 then some 7 else if 48 ≤ c ∧ c ≤ 57 then some 8 else none
  | 7 => if 48 ≤ c ∧ c ≤ 57 then some 8 else none
  | 8 => if 48 ≤ c ∧ c ≤ 57 then some 8 else none
  | _ => none

def acc (s : Nat) : Bool := s == 2 || s == 3 || s == 5 || s == 8

/-- The run: the last state, and how many bytes it took. -/
def mrun : Nat → List Nat → Nat × Nat
  | s, [] => (s, 0)
  | s, c :: r => match tr s c with
    | none => (s, 0)
    | some t => ((mrun t r).1, (mrun t r).2 + 1)

def res (p : Nat × Nat) : Option Nat := if acc p.1 = true then some p.2 else none

/-- How many digits stand ahead. -/
def dg : List Nat → Nat
  | [] => 0
  | c :: r => if 48 ≤ c ∧ c ≤ 57 then dg r + 1 else 0

def some0 (d : Nat) : Option Nat := if d = 0 then none else some d
def ex : List Nat → Option Nat
  | [] => none
  | c :: r => if c = 43 ∨ c = 45 then (some0 (dg r)).map (· + 1) else some0 (dg (c :: r))
def tailE : List Nat → Option Nat
  | [] => some 0
  | c :: r => if c = 101 ∨ c = 69 then (ex r).map (· + 1) else some 0
def frac (r : List Nat) : Option Nat := if dg r = 0 then none else (tailE (r.drop (dg r))).map (· + dg r)
def tailF : List Nat → Option Nat
  | [] => some 0
  | c :: r => if c = 46 then (frac r).map (· + 1) else tailE (c :: r)
def whole : List Nat → Option Nat
  | [] => none
  | c :: r => if c = 48 then (tailF r).map (· + 1) else if 49 ≤ c ∧ c ≤ 57 then (tailF ((c :: r).drop (dg (c :: r)))).map (· + dg (c :: r)) else none
def numEnd : List Nat → Option Nat
  | [] => none
  | c :: r => if c = 45 then (whole r).map (· + 1) else whole (c :: r)

theorem res_step {s t c : Nat} {r : List Nat} (h : tr s c = some t) : res (mrun s (c :: r)) = (res (mrun t r)).map (· + 1) := by
  simp only [mrun, h, res]
  split <;> rfl
theorem res_dead {s c : Nat} {r : List Nat} (h : tr s c = none) : res (mrun s (c :: r)) = if acc s = true then some 0 else none := by
  simp only [mrun, h, res]

theorem map_map (o : Option Nat) (a b : Nat) : (o.map (· + a)).map (· + b) = o.map (· + (a + b)) := by
  cases o <;> simp [Nat.add_assoc]
theorem map_zero (o : Option Nat) : o.map (· + 0) = o := by cases o <;> rfl

theorem dg_pos {c : Nat} {r : List Nat} (h : 48 ≤ c ∧ c ≤ 57) : dg (c :: r) = dg r + 1 := by simp only [dg]; rw [if_pos h]
theorem dg_neg {c : Nat} {r : List Nat} (h : ¬ (48 ≤ c ∧ c ≤ 57)) : dg (c :: r) = 0 := by simp only [dg]; rw [if_neg h]
theorem dg_le (r : List Nat) : dg r ≤ r.length := by
  induction r with
  | nil => exact Nat.le_refl _
  | cons c r ih => simp only [dg, List.length_cons]; split <;> omega

theorem res8 (r : List Nat) : res (mrun 8 r) = some (dg r) := by
  induction r with
  | nil => rfl
  | cons c r ih =>
    by_cases h : 48 ≤ c ∧ c ≤ 57
    · rw [res_step (t := 8) (by simp only [tr]; rw [if_pos h]), ih, dg_pos h]; rfl
    · rw [res_dead (by simp only [tr]; rw [if_neg h]), dg_neg h]; rfl

theorem res7 (r : List Nat) : res (mrun 7 r) = some0 (dg r) := by
  cases r with
  | nil => rfl
  | cons c r =>
    by_cases h : 48 ≤ c ∧ c ≤ 57
    · rw [res_step (t := 8) (by simp only [tr]; rw [if_pos h]), res8, dg_pos h]
      simp [some0]
    · rw [res_dead (by simp only [tr]; rw [if_neg h]), dg_neg h]; rfl

theorem res6 (r : List Nat) : res (mrun 6 r) = ex r := by
  cases r with
  | nil => rfl
  | cons c r =>
    simp only [ex]
    by_cases h0 : c = 43 ∨ c = 45
    · rw [if_pos h0, res_step (t := 7) (by simp only [tr]; rw [if_pos h0]), res7]
    · rw [if_neg h0]
      by_cases h : 48 ≤ c ∧ c ≤ 57
      · rw [res_step (t := 8) (by simp only [tr]; rw [if_neg h0, if_pos h]), res8, dg_pos h]
        simp [some0]
      · rw [res_dead (by simp only [tr]; rw [if_neg h0, if_neg h]), dg_neg h]; rfl

theorem res5 (r : List Nat) : res (mrun 5 r) = (tailE (r.drop (dg r))).map (· + dg r) := by
  induction r with
  | nil => rfl
  | cons c r ih =>
    by_cases h : 48 ≤ c ∧ c ≤ 57
    · rw [res_step (t := 5) (by simp only [tr]; rw [if_pos h]), ih, dg_pos h, map_map]; rfl
    · rw [dg_neg h, map_zero]
      simp only [List.drop_zero, tailE]
      by_cases h0 : c = 101 ∨ c = 69
      · rw [if_pos h0, res_step (t := 6) (by simp only [tr]; rw [if_neg h, if_pos h0]), res6]
      · rw [if_neg h0, res_dead (by simp only [tr]; rw [if_neg h, if_neg h0])]; rfl

theorem res4 (r : List Nat) : res (mrun 4 r) = frac r := by
  unfold frac
  cases r with
  | nil => rfl
  | cons c r =>
    by_cases h : 48 ≤ c ∧ c ≤ 57
    · rw [res_step (t := 5) (by simp only [tr]; rw [if_pos h]), res5, dg_pos h, map_map, if_neg (by omega)]; rfl
    · rw [res_dead (by simp only [tr]; rw [if_neg h]), dg_neg h]; rfl

theorem tailE_other {c : Nat} {r : List Nat} (h : ¬ (c = 101 ∨ c = 69)) : tailE (c :: r) = some 0 := by simp only [tailE]; rw [if_neg h]

theorem res2 (r : List Nat) : res (mrun 2 r) = tailF r := by
  cases r with
  | nil => rfl
  | cons c r =>
    simp only [tailF]
    by_cases h : c = 46
    · rw [if_pos h, res_step (t := 4) (by simp only [tr]; rw [if_pos h]), res4]
    · rw [if_neg h]
      simp only [tailE]
      by_cases h0 : c = 101 ∨ c = 69
      · rw [if_pos h0, res_step (t := 6) (by simp only [tr]; rw [if_neg h, if_pos h0]), res6]
      · rw [if_neg h0, res_dead (by simp only [tr]; rw [if_neg h, if_neg h0])]; rfl

theorem res3 (r : List Nat) : res (mrun 3 r) = (tailF (r.drop (dg r))).map (· + dg r) := by
  induction r with
  | nil => rfl
  | cons c r ih =>
    by_cases h : 48 ≤ c ∧ c ≤ 57
    · rw [res_step (t := 3) (by simp only [tr]; rw [if_pos h]), ih, dg_pos h, map_map]; rfl
    · rw [dg_neg h, map_zero]
      simp only [List.drop_zero, tailF]
      by_cases h1 : c = 46
      · rw [if_pos h1, res_step (t := 4) (by simp only [tr]; rw [if_neg h, if_pos h1]), res4]
      · rw [if_neg h1]
        simp only [tailE]
        by_cases h0 : c = 101 ∨ c = 69
        · rw [if_pos h0, res_step (t := 6) (by simp only [tr]; rw [if_neg h, if_neg h1, if_pos h0]), res6]
        · rw [if_neg h0, res_dead (by simp only [tr]; rw [if_neg h, if_neg h1, if_neg h0])]; rfl

theorem res1 (r : List Nat) : res (mrun 1 r) = whole r := by
  cases r with
  | nil => rfl
  | cons c r =>
    simp only [whole]
    by_cases h : c = 48
    · rw [if_pos h, res_step (t := 2) (by simp only [tr]; rw [if_pos h]), res2]
    · rw [if_neg h]
      by_cases h1 : 49 ≤ c ∧ c ≤ 57
      · rw [if_pos h1, res_step (t := 3) (by simp only [tr]; rw [if_neg h, if_pos (by omega)]), res3, dg_pos (by omega), map_map]; rfl
      · rw [if_neg h1, res_dead (by simp only [tr]; rw [if_neg h, if_neg (by omega)])]; rfl

/-- The automaton from its start, and the reader by parts, come to the same. -/
theorem res0 (r : List Nat) : res (mrun 0 r) = numEnd r := by
  cases r with
  | nil => rfl
  | cons c r =>
    simp only [numEnd]
    by_cases h : c = 45
    · rw [if_pos h, res_step (t := 1) (by simp only [tr]; rw [if_pos h]), res1]
    · rw [if_neg h]
      simp only [whole]
      by_cases h0 : c = 48
      · rw [if_pos h0, res_step (t := 2) (by simp only [tr]; rw [if_neg h, if_pos h0]), res2]
      · rw [if_neg h0]
        by_cases h1 : 49 ≤ c ∧ c ≤ 57
        · rw [if_pos h1, res_step (t := 3) (by simp only [tr]; rw [if_neg h, if_neg h0, if_pos (by omega)]), res3, dg_pos (by omega), map_map]; rfl
        · rw [if_neg h1, res_dead (by simp only [tr]; rw [if_neg h, if_neg h0, if_neg (by omega)])]; rfl

theorem mrun_take (s : Nat) (r : List Nat) (m : Nat) (h : (mrun s r).2 ≤ m) : mrun s (r.take m) = mrun s r := by
  induction r generalizing s m with
  | nil => simp
  | cons c r ih =>
    cases ht : tr s c with
    | none =>
      cases m with
      | zero => simp [mrun, ht]
      | succ m => simp [mrun, ht]
    | some t =>
      simp only [mrun, ht] at h
      cases m with
      | zero => omega
      | succ m => simp only [List.take_succ_cons, mrun, ht]; rw [ih t m (by omega)]

theorem mrun_le (s : Nat) (r : List Nat) : (mrun s r).2 ≤ r.length := by
  induction r generalizing s with
  | nil => simp [mrun]
  | cons c r ih =>
    simp only [mrun]
    split
    · simp
    · simp only [List.length_cons]; have := ih ‹_›; omega

theorem numEnd_le {r : List Nat} {n : Nat} (h : numEnd r = some n) : n ≤ r.length := by
  rw [← res0] at h
  unfold res at h
  split at h
  · cases h; exact mrun_le 0 r
  · cases h

/-- Cut behind its end, the text reads to the same end. -/
theorem numEnd_take {r : List Nat} {n m : Nat} (h : numEnd r = some n) (hm : n ≤ m) : numEnd (r.take m) = some n := by
  rw [← res0] at h ⊢
  have h2 : (mrun 0 r).2 = n := by
    unfold res at h
    split at h
    · cases h; rfl
    · cases h
  rw [mrun_take 0 r m (by omega)]
  exact h
end Go.Proofs.Qxb6617328a
