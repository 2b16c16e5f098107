import Derived.Test.Qxb6617298aProg
import Derived.WalkKit
import Derived.WalkSpells
import Derived.WalkLawsBesides
import Derived.Lib.Strings
namespace Go.Proofs.Qxb6617298a
open Go.RowKit

def isJoin (x p q s : ByteArray) : Bool := x.data.toList == p.data.toList ++ q.data.toList ++ s.data.toList

theorem isJoin_eq (x p q s : ByteArray) (h : x.size = p.size + q.size + s.size) :
    isJoin x p q s = (((x.extract 0 p.size).toList == p.toList) && ((x.extract p.size (p.size + q.size)).toList == q.toList) && ((x.extract (p.size + q.size) x.size).toList == s.toList)) := by
  unfold isJoin
  simp only [Lib.toList_data, Lib.extract_data]
  obtain ⟨⟨x⟩⟩ := x
  obtain ⟨⟨p⟩⟩ := p
  obtain ⟨⟨q⟩⟩ := q
  obtain ⟨⟨s⟩⟩ := s
  have h' : x.length = p.length + q.length + s.length := h
  show (x == p ++ q ++ s) = ((((x.drop 0).take (p.length - 0)) == p) && (((x.drop p.length).take (p.length + q.length - p.length)) == q) && (((x.drop (p.length + q.length)).take (x.length - (p.length + q.length))) == s))
  rw [Bool.eq_iff_iff]
  simp only [Bool.and_eq_true, beq_iff_eq, List.drop_zero, Nat.sub_zero, Nat.add_sub_cancel_left]
  constructor
  · rintro rfl
    simp
    exact List.take_of_length_le (by omega)
  · rintro ⟨⟨h1, h2⟩, h3⟩
    rw [List.take_of_length_le (by rw [List.length_drop]; omega)] at h3
    have e2 : q ++ s = x.drop p.length := by
      rw [← List.take_append_drop q.length (x.drop p.length), h2, List.drop_drop, h3]
    rw [List.append_assoc, e2, ← List.take_append_drop p.length x, h1]
    simp

set_option maxHeartbeats 400000 in
theorem joins_any (x p q s : ByteArray) (w : World) (hx : x.size ≤ 140737488355328) (hp : p.size ≤ 140737488355328) (hq : q.size ≤ 140737488355328) (hs : s.size ≤ 140737488355328) :
    Calls Try.prog 16 #[.string x, .string p, .string q, .string s] w fun e w' => e = .returned (.bool (isJoin x p q s)) ∧ w' = w := by
  by_cases hsz : x.size = p.size + q.size + s.size
  · have hne : ((x.size : Int) != (p.size : Int) + (q.size : Int) + (s.size : Int)) = false := by
      rw [bne_eq_false_iff_eq]; omega
    have b1 : p.size ≤ x.size := by omega
    have b2 : p.size + q.size ≤ x.size := by omega
    have hj := isJoin_eq x p q s hsz
    have HJ : Hid (isJoin x p q s = (((x.extract 0 p.size).toList == p.toList) && ((x.extract p.size (p.size + q.size)).toList == q.toList) && ((x.extract (p.size + q.size) x.size).toList == s.toList))) := hj
    clear hsz hj
    cases c1 : ((x.extract 0 p.size).toList == p.toList)
    · rw [c1] at HJ
      go_enter Try.func16, Try.ntmps16
      go_wp2
      go_ret
      exact ⟨by rw [HJ.out]; rfl, rfl⟩
    · cases c2 : ((x.extract p.size (p.size + q.size)).toList == q.toList)
      · rw [c1, c2] at HJ
        go_enter Try.func16, Try.ntmps16
        go_wp2
        go_ret
        exact ⟨by rw [HJ.out]; rfl, rfl⟩
      · rw [c1, c2] at HJ
        go_enter Try.func16, Try.ntmps16
        go_wp2
        go_ret
        exact ⟨by rw [HJ.out]; rfl, rfl⟩
  · have hne : ((x.size : Int) != (p.size : Int) + (q.size : Int) + (s.size : Int)) = true := by
      rw [bne_iff_ne]; omega
    have hJ : Hid (isJoin x p q s = false) := by
      show _ = _
      unfold isJoin
      rw [beq_eq_false_iff_ne]
      intro h
      have := congrArg List.length h
      simp at this
      omega
    clear hsz
    go_enter Try.func16, Try.ntmps16
    go_wp2
    go_ret
    exact ⟨by rw [hJ.out]; rfl, rfl⟩
end Go.Proofs.Qxb6617298a
