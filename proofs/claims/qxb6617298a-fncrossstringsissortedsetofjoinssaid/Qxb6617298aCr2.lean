import Derived.Test.Qxb6617298aCr1
import Derived.Test.Qxb6617298aStr
import Derived.Deep.QuietTactic
import Derived.BigQuiet
namespace Go.Proofs.Qxb6617298a
open Go.RowKit

/-- The string at place i. -/
def at_ (ss : List ByteArray) (i : Nat) : ByteArray := ss.getD i ByteArray.empty

/-- The cells of a row of strings, at an address that may be nil where there is none. -/
def Row (w : World) (o : Option Addr) (ss : List ByteArray) : Prop :=
  ss.length ≤ 140737488355328 ∧ (∀ s ∈ ss, s.size ≤ 1048576) ∧ (ss = [] ∨ ∃ b off, o = some ⟨b, off, none⟩ ∧ ∀ i, i < ss.length → w.cell? ⟨b, off + i, none⟩ = some (.string (at_ ss i)))

theorem Row.at {w : World} {o : Option Addr} {ss : List ByteArray} (h : Row w o ss) {i : Nat} (hi : i < ss.length) :
    ∃ b off, o = some ⟨b, off, none⟩ ∧ w.cell? ⟨b, off + i, none⟩ = some (.string (at_ ss i)) ∧ (at_ ss i).size ≤ 1048576 := by
  obtain ⟨_, h2, rfl | ⟨b, off, h3, h4⟩⟩ := h
  · simp at hi
  · exact ⟨b, off, h3, h4 i hi, size_getD h2 i⟩

/-- The same world but for draws. -/
def Qt (w w' : World) : Prop := ∃ n, w' = w.drewN n
theorem Qt.refl (w : World) : Qt w w := ⟨0, rfl⟩
theorem Qt.drewN {w w' : World} (h : Qt w w') (n : Nat) : Qt w (w'.drewN n) := by
  obtain ⟨m, rfl⟩ := h
  exact ⟨m + n, by rw [World.drewN_drewN]⟩
theorem Qt.trans {a b c : World} (h : Qt a b) (k : Qt b c) : Qt a c := by
  obtain ⟨m, rfl⟩ := k
  exact h.drewN m
theorem Qt.row {w w' : World} {o : Option Addr} {ss : List ByteArray} (h : Row w o ss) (q : Qt w w') : Row w' o ss := by
  obtain ⟨n, rfl⟩ := q
  exact h

set_option maxHeartbeats 1000000 in
theorem injoins_yes (x : ByteArray) (oa : Option Addr) (ca : Nat) (sa : List ByteArray) (ob : Option Addr) (cb : Nat) (sb : List ByteArray) (oc : Option Addr) (cc : Nat) (sc : List ByteArray) (w : World)
    (hx : x.size ≤ 140737488355328) (ra : Row w oa sa) (rb : Row w ob sb) (rc : Row w oc sc)
    (i0 j0 k0 : Nat) (hi0 : i0 < sa.length) (hj0 : j0 < sb.length) (hk0 : k0 < sc.length) (hJ : isJoin x (at_ sa i0) (at_ sb j0) (at_ sc k0) = true) :
    Calls Try.prog 15 #[.string x, .slice oa sa.length ca, .slice ob sb.length cb, .slice oc sc.length cc] w fun e w' => e = .returned (.bool true) ∧ Qt w w' := by
  have na := ra.1
  have nb := rb.1
  have nc := rc.1
  have RA : Hid (Row w oa sa) := ra
  have RB : Hid (Row w ob sb) := rb
  have RC : Hid (Row w oc sc) := rc
  have HJ : Hid (isJoin x (at_ sa i0) (at_ sb j0) (at_ sc k0) = true) := hJ
  clear ra rb rc hJ
  go_enter Try.func15, Try.ntmps15
  go_wp2
  go_loopw [9] (fun i wr => ∃ k : Nat, k ≤ i0 ∧ i = .int .i64 k ∧ Qt w wr) (fun i _ => sa.length - (intOf i).toNat)
  case atStart => exact ⟨0, by omega, rfl, Qt.refl _⟩
  case round =>
    obtain ⟨i, hi, rfl, hq1⟩ := hrel
    have hia : (i : Int) < (sa.length : Int) := by omega
    go_wp2
    go_loopw [10] (fun j wr => ∃ k : Nat, k ≤ sb.length ∧ (i < i0 ∨ k ≤ j0) ∧ j = .int .i64 k ∧ Qt w wr) (fun j _ => sb.length - (intOf j).toNat)
    case atStart => exact ⟨0, by omega, by omega, rfl, hq1⟩
    case round =>
      clear hq1
      obtain ⟨j, hjl, hj, rfl, hq2⟩ := hrel
      by_cases hjb : j < sb.length
      · have hjb' : (j : Int) < (sb.length : Int) := by omega
        go_wp2
        go_loopw [11] (fun k wr => ∃ t : Nat, t ≤ sc.length ∧ (i < i0 ∨ j < j0 ∨ t ≤ k0) ∧ k = .int .i64 t ∧ Qt w wr) (fun k _ => sc.length - (intOf k).toNat)
        case atStart => exact ⟨0, by omega, by omega, rfl, hq2⟩
        case round =>
          clear hq2
          obtain ⟨k, hkl, hk, rfl, hq⟩ := hrel
          by_cases hkc : k < sc.length
          · have hkc' : (k : Int) < (sc.length : Int) := by omega
            obtain ⟨ba, fa, rfl, hca, za⟩ := (Qt.row RA.out hq).at (i := i) (by omega)
            obtain ⟨bb, fb, rfl, hcb, zb⟩ := (Qt.row RB.out hq).at hjb
            obtain ⟨bc, fc, rfl, hcc, zc⟩ := (Qt.row RC.out hq).at hkc
            have hE : Hid (isJoin x (at_ sa i) (at_ sb j) (at_ sc k) = false → ¬ (i = i0 ∧ j = j0 ∧ k = k0)) := by
              rintro h ⟨rfl, rfl, rfl⟩
              rw [HJ.out] at h
              cases h
            generalize at_ sa i = p at *
            generalize at_ sb j = q at *
            generalize at_ sc k = s at *
            have hcon := fun W => joins_any x p q s W hx (by omega) (by omega) (by omega)
            generalize isJoin x p q s = bt at hcon hE
            cases bt
            · go_wp2
              go_quiet ((go_at_call 16; exact Calls.quiet_of_same (hcon _)))
              go_wp2
              go_roundw
              case rel => exact ⟨k + 1, by omega, by have := hE.out (by simp); omega, by go_num, hq.drewN _⟩
              case measure => simp [intOf]; omega
            · go_wp2
              go_quiet ((go_at_call 16; exact Calls.quiet_of_same (hcon _)))
              go_wp2
              go_ret
              exact ⟨rfl, hq.drewN _⟩
          · have hkc' : ¬ (k : Int) < (sc.length : Int) := by omega
            go_wp2
            go_roundw
            case rel => exact ⟨j + 1, by omega, by omega, by go_num, hq⟩
            case measure => simp [intOf]; omega
      · have hjb' : ¬ (j : Int) < (sb.length : Int) := by omega
        go_wp2
        go_roundw
        case rel => exact ⟨i + 1, by omega, by go_num, hq2⟩
        case measure => simp [intOf]; omega
end Go.Proofs.Qxb6617298a
