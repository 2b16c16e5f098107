import Derived.Test.Qxb6617298aBn2
import Derived.Deep.RegionWith
namespace Go.Proofs.Qxb6617298a
open Go.RowKit

def better : Option (Nat × Nat) → Option (Nat × Nat) → Bool
  | none, _ => false
  | some _, none => true
  | some (ma, na), some (mb, nb) => if ma = mb then decide (na ≤ nb) else decide (mb < ma)

def sel {α : Type} (b : Bool) (x y : α) : α := match b with | true => x | false => y

def IsNd (w : World) (v : Value) (k : Option (Nat × Nat)) : Prop :=
  (v = .slice none 0 0 ∧ k = none) ∨ ∃ b off c ss, v = .slice (some ⟨b, off, none⟩) (List.length ss) c ∧ 0 < ss.length ∧ ss.length ≤ 140737488355328 ∧ (∀ s ∈ ss, s.size ≤ 140737488355328) ∧
    k = some (mlen ss (ss.length - 1), ss.length) ∧ b < w.heap.size ∧ Cells w b off ss

theorem IsNd.below {w w' : World} {v : Value} {k : Option (Nat × Nat)} (h : IsNd w v k) (hb : Below w.heap.size w w') : IsNd w' v k := by
  rcases h with h | ⟨b, off, c, ss, h1, h2, h3, h4, h5, h6, h7⟩
  · exact .inl h
  · exact .inr ⟨b, off, c, ss, h1, h2, h3, h4, h5, Nat.lt_of_lt_of_le h6 hb.size, fun i hi => by rw [hb.cell (p := ⟨b, off + i, none⟩) h6]; exact h7 i hi⟩

theorem Cells.below {w w' : World} {b off : Nat} {ss : List ByteArray} (h : Cells w b off ss) {B : Nat} (hB : b < B) (hb : Below B w w') : Cells w' b off ss :=
  fun i hi => by rw [hb.cell (p := ⟨b, off + i, none⟩) hB]; exact h i hi

theorem eqlnil (w : World) (a : Option Addr) (n c : Nat) : (binOp .eql 22 (.slice a n c) (.slice none 0 0)).run Try.prog w = .ok (.bool a.isNone) w :=
  Lib.run_eql_slice_nil (P := Try.prog) w 22 9 a n c 0 0 Try.underlying22
theorem neqnil (w : World) (a : Option Addr) (n c : Nat) : (binOp .neq 22 (.slice a n c) (.slice none 0 0)).run Try.prog w = .ok (.bool (!a.isNone)) w :=
  run_neq_slice_nil_any (P := Try.prog) w 22 9 a n c 0 0 Try.underlying22

theorem below3 (w : World) (x y z : Obj) : Below w.heap.size w (((w.alloc x).alloc y).alloc z) :=
  (((Below.refl _ _).alloc (Nat.le_refl _) _).alloc (by simp) _).alloc (by simp; omega) _

theorem below3s (w : World) (x y z : Obj) (n o1 o2 : Nat) (v1 v2 : Value) : Below w.heap.size w ((((((w.alloc x).alloc y).alloc z).drewN n).setCell ⟨w.heap.size + 1 + 1, o1, none⟩ v1).setCell ⟨w.heap.size + 1 + 1, o2, none⟩ v2) :=
  ((below_drewN (below3 w x y z) n).setCell (by simp only; omega) _).setCell (by simp only; omega) _

set_option maxHeartbeats 400000 in
theorem better_nil (o : Option Addr) (n c : Nat) (la lb : Int) (w : World) :
    Calls Try.prog 17 #[.agg #[.slice none 0 0, .int .i64 la], .agg #[.slice o n c, .int .i64 lb]] w fun e w' => e = .returned (.agg #[.slice o n c, .int .i64 lb]) ∧ Below w.heap.size w w' := by
  have hnil := eqlnil
  go_enter Try.func17, Try.ntmps17
  go_wp2
  exact bodyPost_ret (v := .agg #[.slice o n c, .int .i64 lb]) (by simp [results, Try.results17, go_sem]) rfl ⟨rfl, below3 _ _ _ _⟩

set_option maxHeartbeats 400000 in
theorem better_nil2 (x : Addr) (n c : Nat) (la lb : Int) (w : World) :
    Calls Try.prog 17 #[.agg #[.slice (some x) n c, .int .i64 la], .agg #[.slice none 0 0, .int .i64 lb]] w fun e w' => e = .returned (.agg #[.slice (some x) n c, .int .i64 la]) ∧ Below w.heap.size w w' := by
  have hnil := eqlnil
  go_enter Try.func17, Try.ntmps17
  go_wp2
  exact bodyPost_ret (v := .agg #[.slice (some x) n c, .int .i64 la]) (by simp [results, Try.results17, go_sem]) rfl ⟨rfl, below3 _ _ _ _⟩

set_option maxHeartbeats 1000000 in
theorem better_both (b1 off1 c1 b2 off2 c2 : Nat) (s1 s2 : List ByteArray) (la lb : Int) (w : World)
    (h1 : 0 < s1.length) (n1 : s1.length ≤ 140737488355328) (z1 : ∀ s ∈ s1, s.size ≤ 140737488355328) (l1 : b1 < w.heap.size) (k1 : Cells w b1 off1 s1)
    (h2 : 0 < s2.length) (n2 : s2.length ≤ 140737488355328) (z2 : ∀ s ∈ s2, s.size ≤ 140737488355328) (l2 : b2 < w.heap.size) (k2 : Cells w b2 off2 s2) :
    Calls Try.prog 17 #[.agg #[.slice (some ⟨b1, off1, none⟩) s1.length c1, .int .i64 la], .agg #[.slice (some ⟨b2, off2, none⟩) s2.length c2, .int .i64 lb]] w fun e w' =>
      e = .returned (sel (better (some (mlen s1 (s1.length - 1), s1.length)) (some (mlen s2 (s2.length - 1), s2.length))) (.agg #[.slice (some ⟨b1, off1, none⟩) s1.length c1, .int .i64 la]) (.agg #[.slice (some ⟨b2, off2, none⟩) s2.length c2, .int .i64 lb])) ∧ Below w.heap.size w w' := by
  have hnil := eqlnil
  have q1 : ∀ W, Below w.heap.size w W → Calls Try.prog 21 #[.slice (some ⟨b1, off1, none⟩) s1.length c1] W fun e w' => e = .returned (.int .i64 (mlen s1 (s1.length - 1))) ∧ w' = W :=
    fun W hb => short_clo b1 off1 c1 s1 W h1 n1 z1 (k1.below l1 hb)
  have q2 : ∀ W, Below w.heap.size w W → Calls Try.prog 21 #[.slice (some ⟨b2, off2, none⟩) s2.length c2] W fun e w' => e = .returned (.int .i64 (mlen s2 (s2.length - 1))) ∧ w' = W :=
    fun W hb => short_clo b2 off2 c2 s2 W h2 n2 z2 (k2.below l2 hb)
  have m1 := mlen_le z1 (s1.length - 1)
  have m2 := mlen_le z2 (s2.length - 1)
  have Q1 : Hid _ := q1
  have Q2 : Hid _ := q2
  clear q1 q2 z1 z2 k1 k2
  generalize mlen s1 (s1.length - 1) = u1 at *
  generalize mlen s2 (s2.length - 1) = u2 at *
  go_enter Try.func17, Try.ntmps17
  go_wp2
  go_quiet (first
    | (go_at_call_of 21 (Value.slice (some ⟨b1, off1, none⟩) s1.length c1); refine Calls.quiet_of_same (Q1.out _ ?_); exact below_drewN (below3 _ _ _ _) _)
    | (go_at_call_of 21 (Value.slice (some ⟨b2, off2, none⟩) s2.length c2); refine Calls.quiet_of_same (Q2.out _ ?_); exact below_drewN (below3 _ _ _ _) _))
  by_cases he : u1 = u2
  · subst he
    by_cases hl : s2.length < s1.length
    · have hl' : (s2.length : Int) < (s1.length : Int) := by omega
      go_wp2
      refine bodyPost_ret (v := .agg #[.slice (some ⟨b2, off2, none⟩) s2.length c2, .int .i64 lb]) (by simp [results, Try.results17, go_sem]) rfl ⟨?_, below3s _ _ _ _ _ _ _ _ _⟩
      rw [show better (some (u1, s1.length)) (some (u1, s2.length)) = false by simp [better]; omega]; rfl
    · have hl' : ¬ (s2.length : Int) < (s1.length : Int) := by omega
      go_wp2
      refine bodyPost_ret (v := .agg #[.slice (some ⟨b1, off1, none⟩) s1.length c1, .int .i64 la]) (by simp [results, Try.results17, go_sem]) rfl ⟨?_, below3s _ _ _ _ _ _ _ _ _⟩
      rw [show better (some (u1, s1.length)) (some (u1, s2.length)) = true by simp [better]; omega]; rfl
  · have hne : ((u1 : Int) != (u2 : Int)) = true := by rw [bne_iff_ne]; omega
    have HE : Hid (¬ u1 = u2) := he
    clear he
    by_cases hl : (u2 : Int) < (u1 : Int)
    · go_wp2
      refine bodyPost_ret (v := .agg #[.slice (some ⟨b1, off1, none⟩) s1.length c1, .int .i64 la]) (by simp [results, Try.results17, go_sem]) rfl ⟨?_, below3s _ _ _ _ _ _ _ _ _⟩
      rw [show better (some (u1, s1.length)) (some (u2, s2.length)) = true by simp [better, HE.out]; omega]; rfl
    · go_wp2
      refine bodyPost_ret (v := .agg #[.slice (some ⟨b2, off2, none⟩) s2.length c2, .int .i64 lb]) (by simp [results, Try.results17, go_sem]) rfl ⟨?_, below3s _ _ _ _ _ _ _ _ _⟩
      rw [show better (some (u1, s1.length)) (some (u2, s2.length)) = false by simp [better, HE.out]; omega]; rfl

/-- betterNeedles at whatever two sets. -/
theorem better_any (va vb : Value) (la lb : Int) (ka kb : Option (Nat × Nat)) (w : World) (hA : IsNd w va ka) (hB : IsNd w vb kb) :
    Calls Try.prog 17 #[.agg #[va, .int .i64 la], .agg #[vb, .int .i64 lb]] w fun e w' => e = .returned (sel (better ka kb) (.agg #[va, .int .i64 la]) (.agg #[vb, .int .i64 lb])) ∧ Below w.heap.size w w' := by
  rcases hA with ⟨rfl, rfl⟩ | ⟨b1, off1, c1, s1, rfl, h1, n1, z1, rfl, l1, k1⟩
  · rcases hB with ⟨rfl, rfl⟩ | ⟨b2, off2, c2, s2, rfl, h2, n2, z2, rfl, l2, k2⟩
    · exact better_nil _ _ _ la lb w
    · exact better_nil _ _ _ la lb w
  · rcases hB with ⟨rfl, rfl⟩ | ⟨b2, off2, c2, s2, rfl, h2, n2, z2, rfl, l2, k2⟩
    · exact better_nil2 _ _ _ la lb w
    · exact better_both b1 off1 c1 b2 off2 c2 s1 s2 la lb w h1 n1 z1 l1 k1 h2 n2 z2 l2 k2

end Go.Proofs.Qxb6617298a
