/-
  SEAT b6600045aD: THE PLAIN LAW OF A ROW's TEXT: seven pieces between six commas; a price's seven bytes; a size's digits. No walk here.
-/
import Derived.Test.Qxb6600045aDoorEvent
import Derived.Test.Qxb6600045aDoorRead
namespace Go.Proofs.Qxb6600045aDoor
open Go.RowKit

/-! ### Seven pieces -/
def hd1 (p0 : List UInt8) : List UInt8 := [] ++ p0 ++ [44]
def hd2 (p0 p1 : List UInt8) : List UInt8 := hd1 p0 ++ p1 ++ [44]
def hd3 (p0 p1 p2 : List UInt8) : List UInt8 := hd2 p0 p1 ++ p2 ++ [44]
def hd4 (p0 p1 p2 p3 : List UInt8) : List UInt8 := hd3 p0 p1 p2 ++ p3 ++ [44]
def hd5 (p0 p1 p2 p3 p4 : List UInt8) : List UInt8 := hd4 p0 p1 p2 p3 ++ p4 ++ [44]
def hd6 (p0 p1 p2 p3 p4 p5 : List UInt8) : List UInt8 := hd5 p0 p1 p2 p3 p4 ++ p5 ++ [44]
def row7 (p0 p1 p2 p3 p4 p5 p6 : List UInt8) : List UInt8 := hd6 p0 p1 p2 p3 p4 p5 ++ p6 ++ []

theorem head_nil : Head [] 0 := ⟨rfl, rfl⟩
theorem head_next {p m : List UInt8} {k : Nat} (hp : Head p k) (hm : 44 ∉ m) : Head (p ++ m ++ [44]) (k + 1) := by
  refine ⟨?_, ?_⟩
  · rw [stC_comma]; simp; omega
  · rw [List.count_append, List.count_append, hp.2, List.count_eq_zero.2 hm]; rfl

/-- No comma, no line end, no double quote. -/
def Free (l : List UInt8) : Prop := 44 ∉ l ∧ 10 ∉ l ∧ 34 ∉ l
theorem free_nil : Free [] := ⟨by simp, by simp, by simp⟩

structure Free7 (p0 p1 p2 p3 p4 p5 p6 : List UInt8) : Prop where
  f0 : Free p0
  f1 : Free p1
  f2 : Free p2
  f3 : Free p3
  f4 : Free p4
  f5 : Free p5
  f6 : Free p6

section
variable {p0 p1 p2 p3 p4 p5 p6 : List UInt8}
theorem Free7.h1 (h : Free7 p0 p1 p2 p3 p4 p5 p6) : Head (hd1 p0) 1 := head_next head_nil h.f0.1
theorem Free7.h2 (h : Free7 p0 p1 p2 p3 p4 p5 p6) : Head (hd2 p0 p1) 2 := head_next h.h1 h.f1.1
theorem Free7.h3 (h : Free7 p0 p1 p2 p3 p4 p5 p6) : Head (hd3 p0 p1 p2) 3 := head_next h.h2 h.f2.1
theorem Free7.h4 (h : Free7 p0 p1 p2 p3 p4 p5 p6) : Head (hd4 p0 p1 p2 p3) 4 := head_next h.h3 h.f3.1
theorem Free7.h5 (h : Free7 p0 p1 p2 p3 p4 p5 p6) : Head (hd5 p0 p1 p2 p3 p4) 5 := head_next h.h4 h.f4.1
theorem Free7.h6 (h : Free7 p0 p1 p2 p3 p4 p5 p6) : Head (hd6 p0 p1 p2 p3 p4 p5) 6 := head_next h.h5 h.f5.1
theorem row_t0 : row7 p0 p1 p2 p3 p4 p5 p6 = [] ++ p0 ++ 44 :: (p1 ++ 44 :: (p2 ++ 44 :: (p3 ++ 44 :: (p4 ++ 44 :: (p5 ++ 44 :: p6))))) := by simp [row7, hd6, hd5, hd4, hd3, hd2, hd1]
theorem row_t1 : row7 p0 p1 p2 p3 p4 p5 p6 = hd1 p0 ++ p1 ++ 44 :: (p2 ++ 44 :: (p3 ++ 44 :: (p4 ++ 44 :: (p5 ++ 44 :: p6)))) := by simp [row7, hd6, hd5, hd4, hd3, hd2]
theorem row_t2 : row7 p0 p1 p2 p3 p4 p5 p6 = hd2 p0 p1 ++ p2 ++ 44 :: (p3 ++ 44 :: (p4 ++ 44 :: (p5 ++ 44 :: p6))) := by simp [row7, hd6, hd5, hd4, hd3]
theorem row_t3 : row7 p0 p1 p2 p3 p4 p5 p6 = hd3 p0 p1 p2 ++ p3 ++ 44 :: (p4 ++ 44 :: (p5 ++ 44 :: p6)) := by simp [row7, hd6, hd5, hd4]
theorem row_t4 : row7 p0 p1 p2 p3 p4 p5 p6 = hd4 p0 p1 p2 p3 ++ p4 ++ 44 :: (p5 ++ 44 :: p6) := by simp [row7, hd6, hd5]
theorem row_t5 : row7 p0 p1 p2 p3 p4 p5 p6 = hd5 p0 p1 p2 p3 p4 ++ p5 ++ 44 :: p6 := by simp [row7, hd6]
theorem row_t6 : row7 p0 p1 p2 p3 p4 p5 p6 = hd6 p0 p1 p2 p3 p4 p5 ++ p6 ++ [] := rfl
theorem row_count (h : Free7 p0 p1 p2 p3 p4 p5 p6) : (row7 p0 p1 p2 p3 p4 p5 p6).count 44 = 6 := by
  rw [row_t6, List.append_nil, List.count_append, h.h6.2, List.count_eq_zero.2 h.f6.1]
theorem row_no (c : UInt8) (hc : c ≠ 44) (h0 : c ∉ p0) (h1 : c ∉ p1) (h2 : c ∉ p2) (h3 : c ∉ p3) (h4 : c ∉ p4) (h5 : c ∉ p5) (h6 : c ∉ p6) : c ∉ row7 p0 p1 p2 p3 p4 p5 p6 := by
  rw [row_t0]; simp [hc, h0, h1, h2, h3, h4, h5, h6]
theorem row_no10 (h : Free7 p0 p1 p2 p3 p4 p5 p6) : 10 ∉ row7 p0 p1 p2 p3 p4 p5 p6 := row_no 10 (by decide) h.f0.2.1 h.f1.2.1 h.f2.2.1 h.f3.2.1 h.f4.2.1 h.f5.2.1 h.f6.2.1
theorem row_no34 (h : Free7 p0 p1 p2 p3 p4 p5 p6) : 34 ∉ row7 p0 p1 p2 p3 p4 p5 p6 := row_no 34 (by decide) h.f0.2.2 h.f1.2.2 h.f2.2.2 h.f3.2.2 h.f4.2.2 h.f5.2.2 h.f6.2.2
end

/-! ### Numbers -/
theorem dec4 (u : Nat) (h0 : 1000 ≤ u) (h1 : u < 10000) : Lib.decDigits u = [UInt8.ofNat (48 + u / 1000), UInt8.ofNat (48 + u / 100 % 10), UInt8.ofNat (48 + u / 10 % 10), UInt8.ofNat (48 + u % 10)] := by
  rw [Lib.decDigits, dif_neg (by omega), Lib.decDigits, dif_neg (by omega), Lib.decDigits, dif_neg (by omega), Lib.decDigits, dif_pos (by omega)]
  simp [Nat.div_div_eq_div_mul]
/-- A digit's byte. -/
def Dig (c : UInt8) (d : Int) : Prop := (c.toNat : Int) = 48 + d ∧ 0 ≤ d ∧ d ≤ 9
theorem dig_ofNat (d : Nat) (h : d ≤ 9) : Dig (UInt8.ofNat (48 + d)) d := by
  refine ⟨?_, by omega, by omega⟩
  rw [UInt8.toNat_ofNat']; omega
theorem dig_dgB (z : Int) (h0 : 0 ≤ z) (h1 : z ≤ 9) : Dig (dgB z) z := ⟨dgB_toNat z h0 h1, h0, h1⟩
theorem Dig.ne {c : UInt8} {d : Int} (h : Dig c d) (x : UInt8) (hx : x.toNat < 48) : c ≠ x := by
  intro e; subst e; have := h.1; have := h.2.1; omega
/-- A price's seven bytes, and what they say. -/
theorem price_form (t : Int) (h0 : 10800 ≤ t) (h1 : t ≤ 11300) : ∃ (c3 c2 c1 c0 e1 e0 : UInt8) (d3 d2 d1 d0 f1 f0 : Int), priceB t = [c3, c2, c1, c0, 46, e1, e0] ∧
    Dig c3 d3 ∧ 1 ≤ d3 ∧ Dig c2 d2 ∧ Dig c1 d1 ∧ Dig c0 d0 ∧ Dig e1 f1 ∧ Dig e0 f0 ∧ ((((d3 * 10 + d2) * 10 + d1) * 10 + d0) * 10 + f1) * 10 + f0 = 25 * t := by
  obtain ⟨q, hq⟩ := Int.eq_ofNat_of_zero_le (show 0 ≤ t * 25 / 100 by omega)
  have hi : Lib.itoa (t * 25 / 100) = Lib.decDigits q := by
    rw [hq]; unfold Lib.itoa; rw [if_neg (by omega), Int.toNat_natCast]
  refine ⟨_, _, _, _, _, _, (q / 1000 : Nat), (q / 100 % 10 : Nat), (q / 10 % 10 : Nat), (q % 10 : Nat), t * 25 % 100 / 10, t * 25 % 10, ?_, dig_ofNat _ (by omega), by omega, dig_ofNat _ (by omega), dig_ofNat _ (by omega), dig_ofNat _ (by omega), dig_dgB _ (by omega) (by omega), dig_dgB _ (by omega) (by omega), ?_⟩
  · unfold priceB
    rw [hi, dec4 q (by omega) (by omega)]
    rfl
  · have k1 : q / 1000 = q / 100 / 10 := by omega
    have k2 : q / 100 = q / 10 / 10 := by omega
    have k3 : t * 25 % 100 % 10 = t * 25 % 10 := by omega
    have k4 : (q : Int) = 1000 * (q / 1000 : Nat) + 100 * (q / 100 % 10 : Nat) + 10 * (q / 10 % 10 : Nat) + (q % 10 : Nat) := by omega
    have k5 : t * 25 % 100 = 10 * (t * 25 % 100 / 10) + t * 25 % 10 := by omega
    have k6 : t * 25 = 100 * (t * 25 / 100) + t * 25 % 100 := by omega
    generalize t * 25 % 100 / 10 = A at *
    generalize t * 25 % 10 = B at *
    generalize t * 25 % 100 = C at *
    generalize t * 25 / 100 = D at *
    generalize ((q / 1000 : Nat) : Int) = E at *
    generalize ((q / 100 % 10 : Nat) : Int) = F at *
    generalize ((q / 10 % 10 : Nat) : Int) = G at *
    generalize ((q % 10 : Nat) : Int) = K at *
    omega
theorem price_free (t : Int) (h0 : 10800 ≤ t) (h1 : t ≤ 11300) : Free (priceB t) := by
  obtain ⟨c3, c2, c1, c0, e1, e0, d3, d2, d1, d0, f1, f0, hp, g3, _, g2, g1, g0, k1, k0, _⟩ := price_form t h0 h1
  rw [hp]
  have key : ∀ x : UInt8, x.toNat < 48 → x ≠ 46 → x ∉ [c3, c2, c1, c0, 46, e1, e0] := by
    intro x hx h46
    simp only [List.mem_cons, List.not_mem_nil, or_false, not_or]
    exact ⟨(g3.ne x hx).symm, (g2.ne x hx).symm, (g1.ne x hx).symm, (g0.ne x hx).symm, h46, (k1.ne x hx).symm, (k0.ne x hx).symm⟩
  exact ⟨key 44 (by decide) (by decide), key 10 (by decide) (by decide), key 34 (by decide) (by decide)⟩
/-- A size's one or two digits. -/
theorem size_form (u : Int) (h0 : 1 ≤ u) (h1 : u ≤ 20) : (∃ c0, Lib.decDigits u.toNat = [c0] ∧ Dig c0 u) ∨ ∃ (c1 c0 : UInt8) (d1 d0 : Int), Lib.decDigits u.toNat = [c1, c0] ∧ Dig c1 d1 ∧ 1 ≤ d1 ∧ Dig c0 d0 ∧ d1 * 10 + d0 = u := by
  obtain ⟨n, rfl⟩ := Int.eq_ofNat_of_zero_le (show 0 ≤ u by omega)
  rw [Int.toNat_natCast]
  by_cases h : n < 10
  · exact .inl ⟨_, Lib.decDigits_one h, dig_ofNat n (by omega)⟩
  · exact .inr ⟨_, _, (n / 10 : Nat), (n % 10 : Nat), Lib.decDigits_two h (by omega), dig_ofNat _ (by omega), by omega, dig_ofNat _ (by omega), by omega⟩
theorem size_free (u : Int) (h0 : 1 ≤ u) (h1 : u ≤ 20) : Free (Lib.decDigits u.toNat) := by
  rcases size_form u h0 h1 with ⟨c0, hc, g0⟩ | ⟨c1, c0, d1, d0, hc, g1, _, g0, _⟩
  · rw [hc]
    have key : ∀ x : UInt8, x.toNat < 48 → x ∉ [c0] := by
      intro x hx
      simp only [List.mem_cons, List.not_mem_nil, or_false]
      exact (g0.ne x hx).symm
    exact ⟨key 44 (by decide), key 10 (by decide), key 34 (by decide)⟩
  · rw [hc]
    have key : ∀ x : UInt8, x.toNat < 48 → x ∉ [c1, c0] := by
      intro x hx
      simp only [List.mem_cons, List.not_mem_nil, or_false, not_or]
      exact ⟨(g1.ne x hx).symm, (g0.ne x hx).symm⟩
    exact ⟨key 44 (by decide), key 10 (by decide), key 34 (by decide)⟩

/-! ### The two kinds of row -/
def trdT : List UInt8 := [116, 114, 97, 100, 101]
def quoT : List UInt8 := [113, 117, 111, 116, 101]
theorem trade_row (M x : Int) : tradeB M x = row7 [] trdT (priceB (M + x / 3 / 4 % 2)) (Lib.decDigits (1 + x / 3 / 4 / 2 % 20).toNat) [] [] [] ++ [10] := by
  rw [row_t0]; simp [tradeB, trdT]
theorem trade_free (M x : Int) (h0 : 10800 ≤ M) (h1 : M ≤ 11200) : Free7 [] trdT (priceB (M + x / 3 / 4 % 2)) (Lib.decDigits (1 + x / 3 / 4 / 2 % 20).toNat) [] [] [] :=
  ⟨free_nil, ⟨by decide, by decide, by decide⟩, price_free _ (by omega) (by omega), size_free _ (by omega) (by omega), free_nil, free_nil, free_nil⟩
/-- A quote's bid and ask, as texts. -/
def bidT (M x : Int) : List UInt8 := if x / 3 / 4 % 32 = 1 then [] else priceB M
def askT (M x : Int) : List UInt8 := if x / 3 / 4 % 32 = 0 then [] else priceB (M + 1 + x / 3 % 4 / 3)
theorem quote_row (M x : Int) : quoteB M x = row7 [] quoT [] [] (bidT M x) (askT M x) [] ++ [10] := by
  rw [row_t0]
  unfold quoteB bidT askT
  by_cases e0 : x / 3 / 4 % 32 = 0
  · rw [if_pos e0, if_neg (by omega), if_pos e0]; simp [quoT]
  · by_cases e1 : x / 3 / 4 % 32 = 1
    · rw [if_neg e0, if_pos e1, if_pos e1, if_neg e0]; simp [quoT]
    · rw [if_neg e0, if_neg e1, if_neg e1, if_neg e0]; simp [quoT]
theorem quote_free (M x : Int) (h0 : 10800 ≤ M) (h1 : M ≤ 11200) : Free7 [] quoT [] [] (bidT M x) (askT M x) [] := by
  refine ⟨free_nil, ⟨by decide, by decide, by decide⟩, free_nil, free_nil, ?_, ?_, free_nil⟩
  · unfold bidT; split
    · exact free_nil
    · exact price_free _ (by omega) (by omega)
  · unfold askT; split
    · exact free_nil
    · exact price_free _ (by omega) (by omega)
end Go.Proofs.Qxb6600045aDoor
