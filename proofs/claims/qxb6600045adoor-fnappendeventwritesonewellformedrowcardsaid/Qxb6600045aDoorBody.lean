/-
  SEAT b6600045aD: THE READERS AT A ROW OF SEVEN PIECES.
-/
import Derived.Test.Qxb6600045aDoorText
import Derived.Test.Qxb6600045aDoorParse
namespace Go.Proofs.Qxb6600045aDoor
open Go.RowKit

/-- The body of a row lies at offset o of block g. -/
structure Bd (g o n cap : Nat) (p0 p1 p2 p3 p4 p5 p6 : List UInt8) (w : World) : Prop where
  cs : Cs w g o (row7 p0 p1 p2 p3 p4 p5 p6)
  len : (row7 p0 p1 p2 p3 p4 p5 p6).length = n
  lt : n < cap
  small : n ≤ 1000000000
  free : Free7 p0 p1 p2 p3 p4 p5 p6

section
variable {g o n cap : Nat} {p0 p1 p2 p3 p4 p5 p6 : List UInt8} {w : World}
theorem Bd.drewN (h : Bd g o n cap p0 p1 p2 p3 p4 p5 p6 w) (q : Nat) : Bd g o n cap p0 p1 p2 p3 p4 p5 p6 (w.drewN q) := ⟨h.cs, h.len, h.lt, h.small, h.free⟩
theorem Bd.has10 (h : Bd g o n cap p0 p1 p2 p3 p4 p5 p6 w) : Calls Tryd.prog 10 #[.slice (some ⟨g, o, none⟩) n cap, .int .u8 10] w fun e w' => e = .returned (.bool false) ∧ w = w' :=
  has_no g o n cap 10 _ w h.len h.small h.cs (row_no10 h.free)
theorem Bd.has34 (h : Bd g o n cap p0 p1 p2 p3 p4 p5 p6 w) : Calls Tryd.prog 10 #[.slice (some ⟨g, o, none⟩) n cap, .int .u8 34] w fun e w' => e = .returned (.bool false) ∧ w = w' :=
  has_no g o n cap 34 _ w h.len h.small h.cs (row_no34 h.free)
theorem Bd.count (h : Bd g o n cap p0 p1 p2 p3 p4 p5 p6 w) : Calls Tryd.prog 11 #[.slice (some ⟨g, o, none⟩) n cap, .int .u8 44] w fun e w' => e = .returned (.int .i64 6) ∧ w = w' := by
  have hc := count_any g o n cap 44 _ w h.len h.small h.cs
  rw [row_count h.free] at hc
  exact hc

/-- fieldB1's answer: a piece of l's bytes, L of them. -/
def Fld (g o n cap : Nat) (w : World) (k : Int) (m : List UInt8) (L : Nat) : Prop :=
  ∃ o' c', (Calls Tryd.prog 12 #[.slice (some ⟨g, o, none⟩) n cap, .int .i64 k] w fun e w' => e = .returned (.slice (some ⟨g, o', none⟩) L c') ∧ w = w') ∧ Cs w g o' m
theorem Bd.fld (h : Bd g o n cap p0 p1 p2 p3 p4 p5 p6 w) {k L : Nat} {p m q : List UInt8} (hr : row7 p0 p1 p2 p3 p4 p5 p6 = p ++ m ++ q) (hp : Head p k) (hm : 44 ∉ m) (hq : q = [] ∨ ∃ q', q = 44 :: q') (hL : m.length = L) : Fld g o n cap w (k : Nat) m L := by
  have hl := h.len
  have hcs := h.cs
  rw [hr] at hl hcs
  exact ⟨o + p.length, cap - p.length, field_any g o n cap k p.length L p m q w rfl hL hl h.small h.lt hcs hp hm hq, hcs.mid⟩
theorem Bd.f0 (h : Bd g o n cap p0 p1 p2 p3 p4 p5 p6 w) {L : Nat} (hL : p0.length = L) : Fld g o n cap w 0 p0 L := h.fld row_t0 head_nil h.free.f0.1 (.inr ⟨_, rfl⟩) hL
theorem Bd.f1 (h : Bd g o n cap p0 p1 p2 p3 p4 p5 p6 w) {L : Nat} (hL : p1.length = L) : Fld g o n cap w 1 p1 L := h.fld row_t1 h.free.h1 h.free.f1.1 (.inr ⟨_, rfl⟩) hL
theorem Bd.f2 (h : Bd g o n cap p0 p1 p2 p3 p4 p5 p6 w) {L : Nat} (hL : p2.length = L) : Fld g o n cap w 2 p2 L := h.fld row_t2 h.free.h2 h.free.f2.1 (.inr ⟨_, rfl⟩) hL
theorem Bd.f3 (h : Bd g o n cap p0 p1 p2 p3 p4 p5 p6 w) {L : Nat} (hL : p3.length = L) : Fld g o n cap w 3 p3 L := h.fld row_t3 h.free.h3 h.free.f3.1 (.inr ⟨_, rfl⟩) hL
theorem Bd.f4 (h : Bd g o n cap p0 p1 p2 p3 p4 p5 p6 w) {L : Nat} (hL : p4.length = L) : Fld g o n cap w 4 p4 L := h.fld row_t4 h.free.h4 h.free.f4.1 (.inr ⟨_, rfl⟩) hL
theorem Bd.f5 (h : Bd g o n cap p0 p1 p2 p3 p4 p5 p6 w) {L : Nat} (hL : p5.length = L) : Fld g o n cap w 5 p5 L := h.fld row_t5 h.free.h5 h.free.f5.1 (.inr ⟨_, rfl⟩) hL
theorem Bd.f6 (h : Bd g o n cap p0 p1 p2 p3 p4 p5 p6 w) {L : Nat} (hL : p6.length = L) : Fld g o n cap w 6 p6 L := h.fld row_t6 h.free.h6 h.free.f6.1 (.inl rfl) hL
end

theorem ret_tup {a b : Int} (h : a = b) : Ending.returned (.tuple #[.int .i64 a, .bool true]) = .returned (.tuple #[.int .i64 b, .bool true]) := by rw [h]
theorem price_len (t : Int) (h0 : 10800 ≤ t) (h1 : t ≤ 11300) : (priceB t).length = 7 := by
  obtain ⟨c3, c2, c1, c0, e1, e0, d3, d2, d1, d0, f1, f0, hp, _⟩ := price_form t h0 h1
  rw [hp]; rfl
/-- parseCentsB1 at a price's text. -/
theorem cents_any (g o c : Nat) (t : Int) (w : World) (h0 : 10800 ≤ t) (h1 : t ≤ 11300) (hcs : Cs w g o (priceB t)) :
    Calls Tryd.prog 14 #[.slice (some ⟨g, o, none⟩) 7 c] w fun e w' => e = .returned (.tuple #[.int .i64 (25 * t), .bool true]) ∧ w = w' := by
  obtain ⟨c3, c2, c1, c0, e1, e0, d3, d2, d1, d0, f1, f0, hp, g3, g3', g2, g1, g0, k1, k0, hv⟩ := price_form t h0 h1
  rw [hp] at hcs
  have q0 := hcs 0 (by simp); have q1 := hcs 1 (by simp); have q2 := hcs 2 (by simp); have q3 := hcs 3 (by simp); have q4 := hcs 4 (by simp); have q5 := hcs 5 (by simp); have q6 := hcs 6 (by simp)
  have hh := cents_seven g o c c3.toNat c2.toNat c1.toNat c0.toNat e1.toNat e0.toNat w (by have := g3.1; omega) (by have := g3.1; have := g3.2; omega) (by have := g2.1; have := g2.2; omega) (by have := g2.1; have := g2.2; omega)
    (by have := g1.1; have := g1.2; omega) (by have := g1.1; have := g1.2; omega) (by have := g0.1; have := g0.2; omega) (by have := g0.1; have := g0.2; omega)
    (by have := k1.1; have := k1.2; omega) (by have := k1.1; have := k1.2; omega) (by have := k0.1; have := k0.2; omega) (by have := k0.1; have := k0.2; omega) q0 q1 q2 q3 q4 q5 q6
  refine hh.mono ?_
  rintro e w' ⟨rfl, rfl⟩
  exact ⟨ret_tup (by rw [g3.1, g2.1, g1.1, g0.1, k1.1, k0.1]; omega), rfl⟩
/-- parseSizeB1 at a size's digits. -/
theorem size_any (g o c L : Nat) (u : Int) (w : World) (h0 : 1 ≤ u) (h1 : u ≤ 20) (hL : (Lib.decDigits u.toNat).length = L) (hcs : Cs w g o (Lib.decDigits u.toNat)) :
    Calls Tryd.prog 15 #[.slice (some ⟨g, o, none⟩) L c] w fun e w' => e = .returned (.tuple #[.int .i64 u, .bool true]) ∧ w = w' := by
  rcases size_form u h0 h1 with ⟨c0, hc, g0⟩ | ⟨c1, c0, d1, d0, hc, g1, g1', g0, hv⟩
  · rw [hc] at hcs hL
    subst hL
    refine (size_one g o c c0.toNat w (by have := g0.1; have := g0.2; omega) (by have := g0.1; have := g0.2; omega) (hcs 0 (by simp))).mono ?_
    rintro e w' ⟨rfl, rfl⟩
    exact ⟨ret_tup (by rw [g0.1]; omega), rfl⟩
  · rw [hc] at hcs hL
    subst hL
    refine (size_two g o c c1.toNat c0.toNat w (by have := g1.1; have := g1.2; omega) (by have := g1.1; have := g1.2; omega) (by have := g0.1; have := g0.2; omega) (by have := g0.1; have := g0.2; omega) (hcs 0 (by simp)) (hcs 1 (by simp))).mono ?_
    rintro e w' ⟨rfl, rfl⟩
    exact ⟨ret_tup (by rw [g0.1, g1.1]; omega), rfl⟩
end Go.Proofs.Qxb6600045aDoor
