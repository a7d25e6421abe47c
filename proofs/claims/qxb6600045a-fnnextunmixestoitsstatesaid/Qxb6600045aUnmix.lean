/-
  SEAT b6600045a: THE WALK OF FnNextUnmixesToItsState (function 3) and of unmixB1 (8), unshiftB1 (16), oddInverseB1 (17); the plain law: the mix is undone.
-/
import Derived.Test.Qxb6600045aWalks
import Derived.Deep.QuietTactic
import Derived.BigQuiet
namespace Go.Proofs.Qxb6600045a
open Go.RowKit

/-! ### The plain functions -/
/-- unshiftB1's variable behind k rounds. -/
def ush (y : Int) (s : Nat) : Nat → Int
  | 0 => y
  | k + 1 => bits BinOp.xor IntKind.u64 y (ush y s k / 2 ^ s)
def ushF (y : Int) (s : Nat) : Int := ush y s 64
/-- oddInverseB1's variable behind k rounds. -/
def nwt (c : Int) : Nat → Int
  | 0 => c
  | k + 1 => IntKind.u64.wrap (nwt c k * IntKind.u64.wrap (2 - IntKind.u64.wrap (c * nwt c k)))
def nwtF (c : Int) : Int := nwt c 6
def unmixI (z : Int) : Int := ushF (IntKind.u64.wrap (ushF (IntKind.u64.wrap (ushF z 31 * nwtF 10723151780598845931)) 27 * nwtF 13787848793156543929)) 30

/-! ### The plain law -/
def ushN (y s : Nat) : Nat → Nat
  | 0 => y
  | k + 1 => y ^^^ (ushN y s k / 2 ^ s)
theorem ushN_lt (y s : Nat) (hy : y < 18446744073709551616) (k : Nat) : ushN y s k < 18446744073709551616 := by
  induction k with
  | zero => exact hy
  | succ k ih =>
    have h : ushN y s k / 2 ^ s < 2 ^ 64 := Nat.lt_of_le_of_lt (Nat.div_le_self _ _) ih
    have := Nat.xor_lt_two_pow (n := 64) (x := y) hy h
    exact this
theorem ush_nat (y s : Nat) (hy : y < 18446744073709551616) (k : Nat) : ush (y : Int) s k = (ushN y s k : Nat) := by
  induction k with
  | zero => rfl
  | succ k ih =>
    show bits BinOp.xor IntKind.u64 (y : Int) (ush (y : Int) s k / 2 ^ s) = _
    rw [ih]
    have e : (((ushN y s k : Nat) : Int) / 2 ^ s) = ((ushN y s k / 2 ^ s : Nat) : Int) := by
      rw [Int.natCast_ediv, Int.natCast_pow]; rfl
    rw [e]
    exact bits_xor_u64_nat _ _ hy (Nat.lt_of_le_of_lt (Nat.div_le_self _ _) (ushN_lt y s hy k))
theorem ushN_xor (x s : Nat) (k : Nat) : ushN (x ^^^ x / 2 ^ s) s k ^^^ x = ((x ^^^ x / 2 ^ s) ^^^ x) >>> (s * k) := by
  induction k with
  | zero => rfl
  | succ k ih =>
    show (x ^^^ x / 2 ^ s) ^^^ (ushN (x ^^^ x / 2 ^ s) s k / 2 ^ s) ^^^ x = _
    rw [Nat.mul_add, Nat.mul_one, Nat.shiftRight_add, ← ih, Nat.shiftRight_xor_distrib, ← Nat.shiftRight_eq_div_pow, ← Nat.shiftRight_eq_div_pow]
    rw [Nat.xor_assoc x, Nat.xor_comm x, Nat.xor_assoc, Nat.xor_self, Nat.xor_zero, Nat.xor_comm]
theorem ushN_back (x s : Nat) (hs : 1 ≤ s) (hx : x < 18446744073709551616) : ushN (x ^^^ x / 2 ^ s) s 64 = x := by
  have h1 := ushN_xor x s 64
  have hy : (x ^^^ x / 2 ^ s) ^^^ x < 2 ^ 64 := by
    have h : x / 2 ^ s < 2 ^ 64 := Nat.lt_of_le_of_lt (Nat.div_le_self _ _) hx
    have h2 := Nat.xor_lt_two_pow (n := 64) (x := x) hx h
    exact Nat.xor_lt_two_pow h2 hx
  have h2 : ((x ^^^ x / 2 ^ s) ^^^ x) >>> (s * 64) = 0 := by
    rw [Nat.shiftRight_eq_div_pow]
    refine Nat.div_eq_of_lt (Nat.lt_of_lt_of_le hy (Nat.pow_le_pow_right (by decide) (by omega)))
  rw [h2] at h1
  have h3 : (ushN (x ^^^ x / 2 ^ s) s 64 ^^^ x) ^^^ x = x := by rw [h1, Nat.zero_xor]
  rwa [Nat.xor_assoc, Nat.xor_self, Nat.xor_zero] at h3
theorem ushF_back (x s : Nat) (hs : 1 ≤ s) (hx : x < 18446744073709551616) : ushF ((x ^^^ x / 2 ^ s : Nat) : Int) s = x := by
  unfold ushF
  have h : x / 2 ^ s < 2 ^ 64 := Nat.lt_of_le_of_lt (Nat.div_le_self _ _) hx
  rw [ush_nat _ _ (Nat.xor_lt_two_pow (n := 64) (x := x) hx h), ushN_back x s hs hx]
theorem nwt1 : nwtF 10723151780598845931 = 3573116690164977347 := by decide +kernel
theorem nwt2 : nwtF 13787848793156543929 = 10871156337175269513 := by decide +kernel
theorem mul_back1 (a : Int) (h0 : 0 ≤ a) (h1 : a < 18446744073709551616) : IntKind.u64.wrap (IntKind.u64.wrap (a * 10723151780598845931) * nwtF 10723151780598845931) = a := by
  rw [nwt1, IntKind.wrap_u64, IntKind.wrap_u64]; omega
theorem mul_back2 (a : Int) (h0 : 0 ≤ a) (h1 : a < 18446744073709551616) : IntKind.u64.wrap (IntKind.u64.wrap (a * 13787848793156543929) * nwtF 13787848793156543929) = a := by
  rw [nwt2, IntKind.wrap_u64, IntKind.wrap_u64]; omega
/-- The xor-shift of a word is a word, and unshift undoes it. -/
theorem xs_back (x : Int) (s : Nat) (h0 : 0 ≤ x) (h1 : x < 18446744073709551616) (hs : 1 ≤ s) :
    0 ≤ bits BinOp.xor IntKind.u64 x (x / 2 ^ s) ∧ bits BinOp.xor IntKind.u64 x (x / 2 ^ s) < 18446744073709551616 ∧ ushF (bits BinOp.xor IntKind.u64 x (x / 2 ^ s)) s = x := by
  obtain ⟨x, rfl⟩ := Int.eq_ofNat_of_zero_le h0
  have hx : x < 18446744073709551616 := by omega
  have e : bits BinOp.xor IntKind.u64 (x : Int) ((x : Int) / 2 ^ s) = ((x ^^^ x / 2 ^ s : Nat) : Int) := by
    have d : ((x : Int) / 2 ^ s) = ((x / 2 ^ s : Nat) : Int) := by rw [Int.natCast_ediv, Int.natCast_pow]; rfl
    rw [d]; exact bits_xor_u64_nat _ _ hx (Nat.lt_of_le_of_lt (Nat.div_le_self _ _) hx)
  have h : x / 2 ^ s < 2 ^ 64 := Nat.lt_of_le_of_lt (Nat.div_le_self _ _) hx
  have h2 := Nat.xor_lt_two_pow (n := 64) (x := x) hx h
  rw [e]
  exact ⟨by omega, by omega, ushF_back x s hs hx⟩
theorem word_wrap (a : Int) : 0 ≤ IntKind.u64.wrap a ∧ IntKind.u64.wrap a < 18446744073709551616 := by
  rw [IntKind.wrap_u64]; omega
theorem unmix_mix (s : Int) (h0 : 0 ≤ s) (h1 : s < 18446744073709551616) : unmixI (mixI s) = s := by
  unfold unmixI mixI
  have a1 := xs_back s 30 h0 h1 (by decide)
  have b1 := word_wrap (bits BinOp.xor IntKind.u64 s (s / 1073741824) * 13787848793156543929)
  have a2 := xs_back (mx1 s) 27 b1.1 b1.2 (by decide)
  have b2 := word_wrap (bits BinOp.xor IntKind.u64 (mx1 s) (mx1 s / 134217728) * 10723151780598845931)
  have a3 := xs_back (mx2 (mx1 s)) 31 b2.1 b2.2 (by decide)
  have e3 : ushF (mx3 (mx2 (mx1 s))) 31 = mx2 (mx1 s) := a3.2.2
  have e2 : ushF (bits BinOp.xor IntKind.u64 (mx1 s) (mx1 s / 134217728)) 27 = mx1 s := a2.2.2
  have e1 : ushF (bits BinOp.xor IntKind.u64 s (s / 1073741824)) 30 = s := a1.2.2
  rw [e3]
  unfold mx2
  rw [mul_back1 (bits BinOp.xor IntKind.u64 (mx1 s) (mx1 s / 134217728)) a2.1 a2.2.1, e2]
  unfold mx1
  rw [mul_back2 (bits BinOp.xor IntKind.u64 s (s / 1073741824)) a1.1 a1.2.1, e1]

/-! ### The walks -/
theorem ush_nonneg (y : Int) (s k : Nat) (h : 0 ≤ y) : 0 ≤ ush y s k := by
  cases k with
  | zero => exact h
  | succ k => exact (word_wrap _).1
theorem unshift_any (y : Int) (s : Nat) (w : World) (hs : s ≤ 63) (h0 : 0 ≤ y) :
    Calls Try.prog 16 #[.int .u64 y, .int .u64 s] w fun e w' => e = .returned (.int .u64 (ushF y s)) ∧ w' = w := by
  go_enter Try.func16, Try.ntmps16
  go_wp2
  go_loop [5, 6] (fun x i => ∃ k : Nat, k ≤ 64 ∧ i = .int .i64 k ∧ x = .int .u64 (ush y s k)) (fun _ i => 64 - (intOf i).toNat)
  case atStart => exact ⟨0, Nat.zero_le _, rfl, rfl⟩
  case round =>
    obtain ⟨k, hk, rfl, rfl⟩ := hrel
    have hz := ush_nonneg y s k h0
    by_cases hlt : k < 64
    · go_wp2
      go_round
      case rel => exact ⟨k + 1, by omega, by go_num, rfl⟩
      case measure => simp [intOf]; omega
    · obtain rfl : k = 64 := by omega
      go_wp2
      go_ret
      exact ⟨rfl, rfl⟩
theorem inv_any (c : Int) (w : World) :
    Calls Try.prog 17 #[.int .u64 c] w fun e w' => e = .returned (.int .u64 (nwtF c)) ∧ w' = w := by
  go_enter Try.func17, Try.ntmps17
  go_wp2
  go_loop [3, 4] (fun x i => ∃ k : Nat, k ≤ 6 ∧ i = .int .i64 k ∧ x = .int .u64 (nwt c k)) (fun _ i => 6 - (intOf i).toNat)
  case atStart => exact ⟨0, Nat.zero_le _, rfl, rfl⟩
  case round =>
    obtain ⟨k, hk, rfl, rfl⟩ := hrel
    by_cases hlt : k < 6
    · go_wp2
      go_round
      case rel => exact ⟨k + 1, by omega, by go_num, rfl⟩
      case measure => simp [intOf]; omega
    · obtain rfl : k = 6 := by omega
      go_wp2
      go_ret
      exact ⟨rfl, rfl⟩
theorem unmix_any (z : Int) (w : World) (h0 : 0 ≤ z) :
    Calls Try.prog 8 #[.int .u64 z] w fun e w' => e = .returned (.int .u64 (unmixI z)) ∧ w' = w := by
  go_enter Try.func8, Try.ntmps8
  go_wp2_with fail
  refine (unshift_any z 31 _ (by decide) h0).mono ?_
  rintro e w' ⟨rfl, rfl⟩
  go_wp2_with fail
  refine (inv_any _ _).mono ?_
  rintro e w1 ⟨rfl, rfl⟩
  go_wp2_with fail
  refine (unshift_any _ 27 _ (by decide) (word_wrap _).1).mono ?_
  rintro e w1 ⟨rfl, rfl⟩
  go_wp2_with fail
  refine (inv_any _ _).mono ?_
  rintro e w1 ⟨rfl, rfl⟩
  go_wp2_with fail
  refine (unshift_any _ 30 _ (by decide) (word_wrap _).1).mono ?_
  rintro e w1 ⟨rfl, rfl⟩
  go_wp2
  go_ret
  exact ⟨rfl, rfl⟩
theorem gen_new3 (r m s : Int) (w : World) : Gen w.heap.size r m s (w.alloc (.cells #[.int .u64 r, .int .i64 m, .int .i64 s] 24)) := by
  refine ⟨by go_simp, by go_simp, by go_simp, by go_simp, by go_simp, by go_simp, by simp⟩
theorem ran_grown {W w w' : World} {b : Nat} (h : Grown W w) (hb : W.heap.size ≤ b) (hr : Ran b w w') : Grown W w' := by
  obtain ⟨hk, hf, hs⟩ := h
  obtain ⟨fz, g⟩ := hr
  obtain ⟨h1, h2, h3⟩ := hk
  refine ⟨⟨g.os.trans h1, g.output.trans h2, fun i hi => ?_⟩, fun a => (fz a).trans (hf a), Nat.le_trans hs g.size⟩
  have e : w'.heap[i]? = w.heap[i]? := g.block i (by omega) (by intro e; injection e; omega)
  rw [e]; exact h3 i hi
theorem grown_drewN {W w : World} (h : Grown W w) (n : Nat) : Grown W (w.drewN n) := h
theorem mix_nonneg (s : Int) : 0 ≤ mixI s := (word_wrap _).1
theorem unmix_walk (a0 a1 a2 : Int) (w : World) :
    Calls Try.prog 3 #[.int .u64 a0, .int .i64 a1, .int .i64 a2] w fun e w' => e = .returned (.bool true) ∧ Grown w w' := by
  have e1 : (unmixI (mixI (stp a0)) == stp a0) = true := by rw [unmix_mix (stp a0) (word_wrap _).1 (word_wrap _).2]; simp
  have e2 : (stp a0 != IntKind.u64.wrap (a0 + 11400714819323198485)) = false := by simp [stp]
  go_enter Try.func3, Try.ntmps3
  go_wp2_with fail
  refine (zznext_any _ a0 a1 a2 _ ?_).mono ?_
  · exact gen_new3 _ _ _ _
  rintro e w' ⟨rfl, hg', hr⟩
  obtain ⟨c0, c1, c2, _, _, _, _⟩ := hg'
  have hfin : Grown w w' := ran_grown ((Grown.refl w).alloc _ _) (Nat.le_refl _) hr
  clear hr
  go_wp2_with fail
  go_quiet ((go_at_call 8; exact Calls.quiet_of_same (unmix_any _ _ (mix_nonneg _))))
  go_wp2
  go_ret
  exact ⟨rfl, hfin⟩
end Go.Proofs.Qxb6600045a
