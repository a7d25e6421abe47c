/-
  SEAT b6600045a: THE WALK OF FnNextJumpsAhead (function 4).
-/
import Derived.Test.Qxb6600045aWalks
import Derived.Outline
namespace Go.Proofs.Qxb6600045a
open Go.RowKit

/-- The counter k steps on. -/
def stpN (k : Nat) (r : Int) : Int := IntKind.u64.wrap (r + k * 11400714819323198485)
theorem stpN_zero (r : Int) (h0 : 0 ≤ r) (h1 : r ≤ 18446744073709551615) : stpN 0 r = r := by
  unfold stpN; rw [IntKind.wrap_u64]; omega
theorem stp_stpN (k : Nat) (r : Int) : stp (stpN k r) = stpN (k + 1) r := by
  unfold stp stpN; rw [IntKind.wrap_u64, IntKind.wrap_u64, IntKind.wrap_u64]; omega
/-- The leap of the law's second generator, as the walk spells it. -/
def leap (k r : Int) : Int := IntKind.u64.wrap (r + IntKind.u64.wrap ((k - 1) * 11400714819323198485))
theorem stp_leap (k : Nat) (r : Int) : stp (leap k r) = stpN k r := by
  unfold stp stpN leap; rw [IntKind.wrap_u64, IntKind.wrap_u64, IntKind.wrap_u64, IntKind.wrap_u64]; omega

/-- What the loop holds of 'last' behind k rounds. -/
def lastN (k : Nat) (r : Int) : Int := if k = 0 then 0 else mixI (stpN k r)

theorem gen_new (r m s : Int) (w : World) : Gen w.heap.size r m s (w.alloc (.cells #[.int .u64 r, .int .i64 m, .int .i64 s] 24)) := by
  refine ⟨by go_simp, by go_simp, by go_simp, by go_simp, by go_simp, by go_simp, by simp⟩
theorem Grown.ran {W w w' : World} {b : Nat} (h : Grown W w) (hb : W.heap.size ≤ b) (hr : Ran b w w') : Grown W w' := by
  obtain ⟨hk, hf, hs⟩ := h
  obtain ⟨fz, g⟩ := hr
  obtain ⟨h1, h2, h3⟩ := hk
  refine ⟨⟨g.os.trans h1, g.output.trans h2, fun i hi => ?_⟩, fun a => (fz a).trans (hf a), Nat.le_trans hs g.size⟩
  have e : w'.heap[i]? = w.heap[i]? := g.block i (by omega) (by intro e; injection e; omega)
  rw [e]; exact h3 i hi
theorem Gen.ran {w w' : World} {b c : Nat} {r m s : Int} (h : Gen c r m s w) (hb : c ≠ b) (hr : Ran b w w') : Gen c r m s w' := by
  obtain ⟨h0, h1, h2, f0, f1, f2, hl⟩ := h
  have e : w'.heap[c]? = w.heap[c]? := hr.grown.block c hl (by intro e; injection e; omega)
  refine ⟨?_, ?_, ?_, ?_, ?_, ?_, Nat.lt_of_lt_of_le hl hr.grown.size⟩
  · rw [World.cell?_of_block (w := w) e]; exact h0
  · rw [World.cell?_of_block (w := w) e]; exact h1
  · rw [World.cell?_of_block (w := w) e]; exact h2
  · rw [hr.fz]; exact f0
  · rw [hr.fz]; exact f1
  · rw [hr.fz]; exact f2
theorem Gen.alloc {w : World} {c : Nat} {r m s : Int} (h : Gen c r m s w) (cs : Array Value) (t : TypeId) : Gen c r m s (w.alloc (.cells cs t)) := by
  obtain ⟨h0, h1, h2, f0, f1, f2, hl⟩ := h
  have e : (w.alloc (.cells cs t)).heap[c]? = w.heap[c]? := Below.heap_alloc _ _ _ hl
  refine ⟨?_, ?_, ?_, ?_, ?_, ?_, by simp; omega⟩
  · rw [World.cell?_of_block (w := w) e]; exact h0
  · rw [World.cell?_of_block (w := w) e]; exact h1
  · rw [World.cell?_of_block (w := w) e]; exact h2
  · rw [World.frozen?_of_block (w := w) e]; exact f0
  · rw [World.frozen?_of_block (w := w) e]; exact f1
  · rw [World.frozen?_of_block (w := w) e]; exact f2

/-- Outside the law's bounds on k: true at once. -/
theorem jump_out (a0 a1 a2 a3 a4 a5 : Int) (w : World) (h : a5 < 1 ∨ 65536 < a5) :
    Calls Try.prog 4 #[.int .u64 a0, .int .i64 a1, .int .i64 a2, .int .i64 a3, .int .i64 a4, .int .i64 a5] w fun e w' => e = .returned (.bool true) ∧ Grown w w' := by
  rcases h with h | h
  · go_enter Try.func4, Try.ntmps4
    go_wp2
    go_ret
    exact ⟨rfl, Grown.refl _⟩
  · have h' : ¬ a5 < 1 := by omega
    go_enter Try.func4, Try.ntmps4
    go_wp2
    go_ret
    exact ⟨rfl, Grown.refl _⟩

theorem jump_in (a0 a1 a2 a3 a4 : Int) (n : Nat) (w : World) (h1 : 1 ≤ n) (h2 : n ≤ 65536) (h3 : 0 ≤ a0) (h4 : a0 ≤ 18446744073709551615) :
    Calls Try.prog 4 #[.int .u64 a0, .int .i64 a1, .int .i64 a2, .int .i64 a3, .int .i64 a4, .int .i64 n] w fun e w' => e = .returned (.bool true) ∧ Grown w w' := by
  have g1 : ¬ ((n : Int) < 1) := by omega
  have g2 : ¬ (65536 < (n : Int)) := by omega
  go_enter Try.func4, Try.ntmps4
  go_wp2
  go_loopw [14, 15] (fun l i wr => ∃ k : Nat, k ≤ n ∧ i = .int .i64 k ∧ l = .int .u64 (lastN k a0) ∧ Gen w.heap.size (stpN k a0) a1 a2 wr ∧ Grown w wr) (fun _ i _ => n - (intOf i).toNat)
  case atStart => exact ⟨0, Nat.zero_le _, rfl, rfl, by rw [stpN_zero _ h3 h4]; exact gen_new _ _ _ _, (Grown.refl _).alloc _ _⟩
  case round =>
    obtain ⟨k, hk, rfl, rfl, hg, hgr⟩ := hrel
    by_cases hlt : k < n
    · go_wp2_with fail
      refine (zznext_any _ _ _ _ _ hg).mono ?_
      rintro e w' ⟨rfl, hg', hr⟩
      go_wp2
      go_roundw
      case rel => exact ⟨k + 1, by omega, by go_num, by rw [stp_stpN]; simp [lastN], by rw [← stp_stpN]; exact hg', Grown.ran hgr (Nat.le_refl _) hr⟩
      case measure => simp [intOf]; omega
    · obtain rfl : k = n := by omega
      have e1 : (mixI (stp (leap k a0)) == lastN k a0) = true := by
        rw [stp_leap]; simp [lastN]; omega
      go_wp2_with fail
      refine (zznext_any wr.heap.size (leap k a0) a3 a4 _ ?_).mono ?_
      · exact gen_new _ _ _ _
      rintro e w' ⟨rfl, hg', hr⟩
      have hga := (hg.alloc #[Value.int .u64 (leap k a0), Value.int .i64 a3, Value.int .i64 a4] 24).ran (Nat.ne_of_lt hg.lt) hr
      have q1 := hg'.c0
      rw [stp_leap] at q1
      have q2 := hga.c0
      have hfin : Grown w w' := Grown.ran (hgr.alloc _ _) hgr.2.2 hr
      clear hg' hga hg hgr
      go_wp2
      go_ret
      exact ⟨rfl, hfin⟩

theorem jump_walk (a0 a1 a2 a3 a4 a5 : Int) (w : World) (h3 : 0 ≤ a0) (h4 : a0 ≤ 18446744073709551615) :
    Calls Try.prog 4 #[.int .u64 a0, .int .i64 a1, .int .i64 a2, .int .i64 a3, .int .i64 a4, .int .i64 a5] w fun e w' => e = .returned (.bool true) ∧ Grown w w' := by
  by_cases h : a5 < 1 ∨ 65536 < a5
  · exact jump_out a0 a1 a2 a3 a4 a5 w h
  · obtain ⟨n, rfl⟩ := Int.eq_ofNat_of_zero_le (show 0 ≤ a5 by omega)
    exact jump_in a0 a1 a2 a3 a4 n w (by omega) (by omega) h3 h4
end Go.Proofs.Qxb6600045a
