import Derived.Test.Qxb6619391aS8
import Derived.Test.Qxb6619391aUp
namespace Go.Proofs.Qxb6619391a
open Go.RowKit

theorem eq_any (a b c o p q : Option Addr) (w : World) (h : ∃ x y z, IsPtr w a x ∧ IsPtr w b y ∧ IsPtr w c z ∧ IsPtr w o x ∧ IsPtr w p y ∧ IsPtr w q z) :
    Calls Try.prog 11 #[.agg #[.pointer a, .pointer b, .pointer c], .agg #[.pointer o, .pointer p, .pointer q]] w fun e w' =>
      e = .returned (.bool true) ∧ Below w.heap.size w w' := by
  obtain ⟨x, y, z, h1, h2, h3, h4, h5, h6⟩ := h
  exact eq_limits a b c o p q x y z w h1 h2 h3 h4 h5 h6

theorem IsPtr.seq {w : World} {l m : Bool} {p q r : Option Addr} {x y z : Option Int} (hp : IsPtr w p x) (hq : IsPtr w q y) (hr : IsPtr w r z) : IsPtr w (sel l p (sel m q r)) (sel l x (sel m y z)) := by
  cases l <;> cases m <;> simp <;> assumption

theorem IsPtr.mrg {w : World} {l m : Bool} {p q r : Option Addr} {x y z : Option Int} (hp : IsPtr w p x) (hq : IsPtr w q y) (hr : IsPtr w r z) : IsPtr w (sel (sel l true m) (sel l p q) r) (sel l x (sel m y z)) := by
  cases l <;> cases m <;> simp <;> assumption

theorem s13_of {w0 : World} {Ps : List (Option Addr × Option Int)} {Bs : List (Nat × List Value)} {b12 b13 b14 b9 b16 b10 : Nat} {u0 u1 u2 u3 u4 u5 u6 u7 u8 u9 u10 u11 u12 u13 u14 u15 u16 u17 : Value} {w : World} (h : St w0 w Ps Bs) (hb12 : (b12, [u0, u1, u2]) ∈ Bs) (hb13 : (b13, [u3, u4, u5]) ∈ Bs) (hb14 : (b14, [u6, u7, u8]) ∈ Bs) (hb9 : (b9, [u9, u10, u11]) ∈ Bs) (hb16 : (b16, [u12, u13, u14]) ∈ Bs) (hb10 : (b10, [u15, u16, u17]) ∈ Bs) :
    w.cell? ⟨b12, 0, none⟩ = some u0 ∧ w.cell? ⟨b12, 1, none⟩ = some u1 ∧ w.cell? ⟨b12, 2, none⟩ = some u2 ∧ w.cell? ⟨b13, 0, none⟩ = some u3 ∧ w.cell? ⟨b13, 1, none⟩ = some u4 ∧ w.cell? ⟨b13, 2, none⟩ = some u5 ∧ w.cell? ⟨b14, 0, none⟩ = some u6 ∧ w.cell? ⟨b14, 1, none⟩ = some u7 ∧ w.cell? ⟨b14, 2, none⟩ = some u8 ∧ w.cell? ⟨b9, 0, none⟩ = some u9 ∧ w.cell? ⟨b9, 1, none⟩ = some u10 ∧ w.cell? ⟨b9, 2, none⟩ = some u11 ∧ w.cell? ⟨b16, 0, none⟩ = some u12 ∧ w.cell? ⟨b16, 1, none⟩ = some u13 ∧ w.cell? ⟨b16, 2, none⟩ = some u14 ∧ w.cell? ⟨b10, 0, none⟩ = some u15 ∧ w.cell? ⟨b10, 1, none⟩ = some u16 ∧ w.cell? ⟨b10, 2, none⟩ = some u17 ∧ Hid (St w0 w Ps Bs) := by
  obtain ⟨⟨a0, a1, a2⟩, -⟩ := h.get3 hb12
  obtain ⟨⟨a3, a4, a5⟩, -⟩ := h.get3 hb13
  obtain ⟨⟨a6, a7, a8⟩, -⟩ := h.get3 hb14
  obtain ⟨⟨a9, a10, a11⟩, -⟩ := h.get3 hb9
  obtain ⟨⟨a12, a13, a14⟩, -⟩ := h.get3 hb16
  obtain ⟨⟨a15, a16, a17⟩, -⟩ := h.get3 hb10
  exact ⟨a0, a1, a2, a3, a4, a5, a6, a7, a8, a9, a10, a11, a12, a13, a14, a15, a16, a17, h⟩

theorem s13_st {w0 : World} {Ps : List (Option Addr × Option Int)} {Bs : List (Nat × List Value)} {b12 b13 b14 b9 b16 b10 : Nat} {u0 u1 u2 u3 u4 u5 u6 u7 u8 u9 u10 u11 u12 u13 u14 u15 u16 u17 : Value} {w : World} (h : w.cell? ⟨b12, 0, none⟩ = some u0 ∧ w.cell? ⟨b12, 1, none⟩ = some u1 ∧ w.cell? ⟨b12, 2, none⟩ = some u2 ∧ w.cell? ⟨b13, 0, none⟩ = some u3 ∧ w.cell? ⟨b13, 1, none⟩ = some u4 ∧ w.cell? ⟨b13, 2, none⟩ = some u5 ∧ w.cell? ⟨b14, 0, none⟩ = some u6 ∧ w.cell? ⟨b14, 1, none⟩ = some u7 ∧ w.cell? ⟨b14, 2, none⟩ = some u8 ∧ w.cell? ⟨b9, 0, none⟩ = some u9 ∧ w.cell? ⟨b9, 1, none⟩ = some u10 ∧ w.cell? ⟨b9, 2, none⟩ = some u11 ∧ w.cell? ⟨b16, 0, none⟩ = some u12 ∧ w.cell? ⟨b16, 1, none⟩ = some u13 ∧ w.cell? ⟨b16, 2, none⟩ = some u14 ∧ w.cell? ⟨b10, 0, none⟩ = some u15 ∧ w.cell? ⟨b10, 1, none⟩ = some u16 ∧ w.cell? ⟨b10, 2, none⟩ = some u17 ∧ Hid (St w0 w Ps Bs)) : St w0 w Ps Bs := h.2.2.2.2.2.2.2.2.2.2.2.2.2.2.2.2.2.2.out

theorem s13_below {w0 : World} {Ps : List (Option Addr × Option Int)} {Bs : List (Nat × List Value)} {b12 b13 b14 b9 b16 b10 : Nat} {u0 u1 u2 u3 u4 u5 u6 u7 u8 u9 u10 u11 u12 u13 u14 u15 u16 u17 : Value} {w w' : World} (hb12 : (b12, [u0, u1, u2]) ∈ Bs) (hb13 : (b13, [u3, u4, u5]) ∈ Bs) (hb14 : (b14, [u6, u7, u8]) ∈ Bs) (hb9 : (b9, [u9, u10, u11]) ∈ Bs) (hb16 : (b16, [u12, u13, u14]) ∈ Bs) (hb10 : (b10, [u15, u16, u17]) ∈ Bs) (hb : Below w.heap.size w w') (h : w.cell? ⟨b12, 0, none⟩ = some u0 ∧ w.cell? ⟨b12, 1, none⟩ = some u1 ∧ w.cell? ⟨b12, 2, none⟩ = some u2 ∧ w.cell? ⟨b13, 0, none⟩ = some u3 ∧ w.cell? ⟨b13, 1, none⟩ = some u4 ∧ w.cell? ⟨b13, 2, none⟩ = some u5 ∧ w.cell? ⟨b14, 0, none⟩ = some u6 ∧ w.cell? ⟨b14, 1, none⟩ = some u7 ∧ w.cell? ⟨b14, 2, none⟩ = some u8 ∧ w.cell? ⟨b9, 0, none⟩ = some u9 ∧ w.cell? ⟨b9, 1, none⟩ = some u10 ∧ w.cell? ⟨b9, 2, none⟩ = some u11 ∧ w.cell? ⟨b16, 0, none⟩ = some u12 ∧ w.cell? ⟨b16, 1, none⟩ = some u13 ∧ w.cell? ⟨b16, 2, none⟩ = some u14 ∧ w.cell? ⟨b10, 0, none⟩ = some u15 ∧ w.cell? ⟨b10, 1, none⟩ = some u16 ∧ w.cell? ⟨b10, 2, none⟩ = some u17 ∧ Hid (St w0 w Ps Bs)) :
    w'.cell? ⟨b12, 0, none⟩ = some u0 ∧ w'.cell? ⟨b12, 1, none⟩ = some u1 ∧ w'.cell? ⟨b12, 2, none⟩ = some u2 ∧ w'.cell? ⟨b13, 0, none⟩ = some u3 ∧ w'.cell? ⟨b13, 1, none⟩ = some u4 ∧ w'.cell? ⟨b13, 2, none⟩ = some u5 ∧ w'.cell? ⟨b14, 0, none⟩ = some u6 ∧ w'.cell? ⟨b14, 1, none⟩ = some u7 ∧ w'.cell? ⟨b14, 2, none⟩ = some u8 ∧ w'.cell? ⟨b9, 0, none⟩ = some u9 ∧ w'.cell? ⟨b9, 1, none⟩ = some u10 ∧ w'.cell? ⟨b9, 2, none⟩ = some u11 ∧ w'.cell? ⟨b16, 0, none⟩ = some u12 ∧ w'.cell? ⟨b16, 1, none⟩ = some u13 ∧ w'.cell? ⟨b16, 2, none⟩ = some u14 ∧ w'.cell? ⟨b10, 0, none⟩ = some u15 ∧ w'.cell? ⟨b10, 1, none⟩ = some u16 ∧ w'.cell? ⟨b10, 2, none⟩ = some u17 ∧ Hid (St w0 w' Ps Bs) := s13_of ((s13_st h).below hb) hb12 hb13 hb14 hb9 hb16 hb10

end Go.Proofs.Qxb6619391a
