import Derived.Test.Qxb6617298aStr
import Derived.Deep.QuietTactic
import Derived.BigQuiet
namespace Go.Proofs.Qxb6617298a
open Go.RowKit

/-- The least length among the first k + 1 strings. -/
def mlen (ss : List ByteArray) : Nat → Nat
  | 0 => (ss.getD 0 ByteArray.empty).size
  | k + 1 => min (mlen ss k) (ss.getD (k + 1) ByteArray.empty).size

theorem mlen_le {ss : List ByteArray} {M : Nat} (h : ∀ s ∈ ss, s.size ≤ M) (k : Nat) : mlen ss k ≤ M := by
  induction k with
  | zero => exact size_getD h 0
  | succ k ih => exact Nat.le_trans (Nat.min_le_left _ _) ih

/-- The cells of a row of strings. -/
def Cells (w : World) (b off : Nat) (ss : List ByteArray) : Prop := ∀ i, i < ss.length → w.cell? ⟨b, off + i, none⟩ = some (.string (ss.getD i ByteArray.empty))

theorem ret_int {k : IntKind} {a b : Int} (h : a = b) : Ending.returned (.int k a) = .returned (.int k b) := by rw [h]

set_option maxHeartbeats 400000 in
theorem shortest_any (b off c : Nat) (ss : List ByteArray) (w : World) (h0 : 0 < ss.length) (hn : ss.length ≤ 140737488355328) (hsz : ∀ s ∈ ss, s.size ≤ 140737488355328) (hc : Cells w b off ss) :
    Calls Try.prog 18 #[.slice (some ⟨b, off, none⟩) ss.length c] w fun e w' => e = .returned (.int .i64 (mlen ss (ss.length - 1))) ∧ w' = w := by
  have hc0 := hc 0 h0
  have hC : Hid (Cells w b off ss) := hc
  have hM : Hid (mlen ss 0 = (ss.getD 0 ByteArray.empty).size) := rfl
  have hs0 := size_getD hsz 0
  have hS : Hid (∀ s ∈ ss, s.size ≤ 140737488355328) := hsz
  clear hc hsz
  generalize ss.getD 0 ByteArray.empty = s0 at hc0 hM hs0
  have hi0 : (0 : Int) < (ss.length : Int) := by omega
  simp only [Nat.add_zero] at hc0
  go_enter Try.func18, Try.ntmps18
  go_wp2
  go_loop [3, 4] (fun m i => ∃ k : Nat, k + 1 ≤ ss.length ∧ i = .int .i64 ((k : Int) + 1) ∧ m = .int .i64 (mlen ss k)) (fun _ i => ss.length - (intOf i).toNat)
  case atStart => exact ⟨0, by omega, rfl, by rw [hM.out]⟩
  case round =>
    clear hc0 hs0 hM
    obtain ⟨k, hk, rfl, rfl⟩ := hrel
    have hm0 := mlen_le hS.out k
    have hmm : Hid (mlen ss (k + 1) = min (mlen ss k) (ss.getD (k + 1) ByteArray.empty).size) := rfl
    have hl : Hid (k + 1 = ss.length → mlen ss (ss.length - 1) = mlen ss k) := fun h => by rw [← h]; rfl
    generalize mlen ss k = m at hm0 hmm hl ⊢
    by_cases hlt : k + 1 < ss.length
    · have hc1 := hC.out (k + 1) hlt
      have hs1 := size_getD hS.out (k + 1)
      have hlt' : (k : Int) + 1 < (ss.length : Int) := by omega
      generalize ss.getD (k + 1) ByteArray.empty = s at hc1 hs1 hmm
      by_cases hle : (s.size : Int) < (m : Int)
      · go_wp2
        go_round
        case rel => exact ⟨k + 1, by omega, by go_num, by rw [hmm.out, Nat.min_eq_right (by omega)]⟩
        case measure => simp [intOf]; omega
      · go_wp2
        go_round
        case rel => exact ⟨k + 1, by omega, by go_num, by rw [hmm.out, Nat.min_eq_left (by omega)]⟩
        case measure => simp [intOf]; omega
    · have hge : ¬ (k : Int) + 1 < (ss.length : Int) := by omega
      go_wp2
      go_ret
      exact ⟨ret_int (by rw [hl.out (by omega)]), rfl⟩
end Go.Proofs.Qxb6617298a
