import Derived.Test.Qxb6617298aProg
import Derived.WalkKit
import Derived.WalkSpells
import Derived.WalkLawsBesides
namespace Go.Proofs.Qxb6617298a
open Go.RowKit

/-- A slice of strings as it lies in memory: 'ss' its elements. -/
def StrRow (w : World) (o : Option Addr) (ss : List ByteArray) : Prop :=
  ss = [] ∨ ∃ b off, o = some ⟨b, off, none⟩ ∧ ∀ i, i < ss.length → w.cell? ⟨b, off + i, none⟩ = some (.string (ss.getD i ByteArray.empty))

theorem size_getD {ss : List ByteArray} {M : Nat} (h : ∀ s ∈ ss, s.size ≤ M) (k : Nat) : (ss.getD k ByteArray.empty).size ≤ M := by
  by_cases hk : k < ss.length
  · have e : ss.getD k ByteArray.empty = ss[k] := by simp [List.getD, hk]
    rw [e]; exact h _ (List.getElem_mem _)
  · have e : ss.getD k ByteArray.empty = ByteArray.empty := by simp [List.getD, hk]
    rw [e]; simp

set_option maxHeartbeats 400000 in
theorem spend_any (bud : Int) (o : Option Addr) (ss : List ByteArray) (c : Nat) (w : World) (hb0 : -1 ≤ bud) (hb1 : bud ≤ 1048576) (hn : ss.length ≤ 140737488355328) (hsz : ∀ s ∈ ss, s.size ≤ 140737488355328) (hr : StrRow w o ss) :
    Calls Try.prog 6 #[.int .i64 bud, .slice o ss.length c] w fun e w' => (∃ r : Int, e = .returned (.int .i64 r) ∧ -1 ≤ r ∧ r ≤ bud ∧ (0 ≤ r → 16 * (ss.length : Int) ≤ bud)) ∧ w' = w := by
  by_cases hneg : bud < 0
  · go_enter Try.func6, Try.ntmps6
    go_wp2
    go_ret
    exact ⟨⟨bud, rfl, by omega, by omega, by omega⟩, rfl⟩
  · by_cases hbig : bud / 16 < ss.length
    · go_enter Try.func6, Try.ntmps6
      go_wp2
      go_ret
      exact ⟨⟨-1, rfl, by omega, by omega, by omega⟩, rfl⟩
    · go_enter Try.func6, Try.ntmps6
      go_wp2
      go_loop [0, 5] (fun b i => ∃ (k : Nat) (r : Int), k ≤ ss.length ∧ i = .int .i64 k ∧ b = .int .i64 r ∧ 0 ≤ r ∧ r ≤ bud) (fun _ i => ss.length - (intOf i).toNat)
      case atStart => exact ⟨0, _, by omega, rfl, rfl, by omega, by omega⟩
      case round =>
        obtain ⟨k, r, hk, rfl, rfl, hr0, hr1⟩ := hrel
        by_cases hlt : k < ss.length
        · rcases hr with rfl | ⟨b, off, rfl, hc⟩
          · simp at hlt
          have hc1 := hc k hlt
          have hs1 := size_getD hsz k
          generalize ss.getD k ByteArray.empty = s at hc1 hs1
          clear hc hsz
          by_cases hle : r < (s.size : Int)
          · go_wp2
            go_ret
            exact ⟨⟨-1, rfl, by omega, by omega, by omega⟩, rfl⟩
          · go_wp2
            go_round
            case rel => exact ⟨k + 1, _, by omega, by go_num, rfl, by omega, by omega⟩
            case measure => simp [intOf]; omega
        · go_wp2
          go_ret
          exact ⟨⟨r, rfl, by omega, by omega, by omega⟩, rfl⟩
end Go.Proofs.Qxb6617298a
