/-
  SEAT b6600045aD: parseSizeB1 (15) at one and at two digits; parseCentsB1 (14) at four digits, a point and two digits.
-/
import Derived.Test.Qxb6600045aDoorRows
import Derived.WalkKit
import Derived.WalkSpells
import Derived.LoopN
namespace Go.Proofs.Qxb6600045aDoor
open Go.RowKit

theorem size_one (b o c : Nat) (x : Int) (w : World) (h0 : 48 ≤ x) (h1 : x ≤ 57) (c0 : w.cell? ⟨b, o, none⟩ = some (.int .u8 x)) :
    Calls Tryd.prog 15 #[.slice (some ⟨b, o, none⟩) 1 c] w fun e w' => e = .returned (.tuple #[.int .i64 (x - 48), .bool true]) ∧ w = w' := by
  go_enter Tryd.func15, Tryd.ntmps15
  go_wp2
  refine wp_loop_rounds 2 ?_
  rw [rounds_succ]
  go_wp2
  rw [rounds_succ]
  go_wp2
  go_ret2
  exact ⟨by simp, rfl⟩
theorem size_two (b o c : Nat) (x y : Int) (w : World) (h0 : 49 ≤ x) (h1 : x ≤ 57) (g0 : 48 ≤ y) (g1 : y ≤ 57) (c0 : w.cell? ⟨b, o, none⟩ = some (.int .u8 x)) (c1 : w.cell? ⟨b, o + 1, none⟩ = some (.int .u8 y)) :
    Calls Tryd.prog 15 #[.slice (some ⟨b, o, none⟩) 2 c] w fun e w' => e = .returned (.tuple #[.int .i64 ((x - 48) * 10 + (y - 48)), .bool true]) ∧ w = w' := by
  have k1 : (x == 48) = false := beq_eq_false_iff_ne.2 (by omega)
  go_enter Tryd.func15, Tryd.ntmps15
  go_wp2
  refine wp_loop_rounds 3 ?_
  rw [rounds_succ]
  go_wp2
  rw [rounds_succ]
  go_wp2
  rw [rounds_succ]
  go_wp2
  go_ret2
  exact ⟨by simp, rfl⟩

set_option maxHeartbeats 1000000 in
set_option maxRecDepth 100000 in
theorem cents_seven (b o c : Nat) (x3 x2 x1 x0 y1 y0 : Int) (w : World) (a3 : 49 ≤ x3) (b3 : x3 ≤ 57) (a2 : 48 ≤ x2) (b2 : x2 ≤ 57) (a1 : 48 ≤ x1) (b1 : x1 ≤ 57) (a0 : 48 ≤ x0) (b0 : x0 ≤ 57) (e1 : 48 ≤ y1) (f1 : y1 ≤ 57) (e0 : 48 ≤ y0) (f0 : y0 ≤ 57)
    (c0 : w.cell? ⟨b, o, none⟩ = some (.int .u8 x3)) (c1 : w.cell? ⟨b, o + 1, none⟩ = some (.int .u8 x2)) (c2 : w.cell? ⟨b, o + 2, none⟩ = some (.int .u8 x1)) (c3 : w.cell? ⟨b, o + 3, none⟩ = some (.int .u8 x0)) (c4 : w.cell? ⟨b, o + 4, none⟩ = some (.int .u8 46))
    (c5 : w.cell? ⟨b, o + 5, none⟩ = some (.int .u8 y1)) (c6 : w.cell? ⟨b, o + 6, none⟩ = some (.int .u8 y0)) :
    Calls Tryd.prog 14 #[.slice (some ⟨b, o, none⟩) 7 c] w fun e w' => e = .returned (.tuple #[.int .i64 ((((((x3 - 48) * 10 + (x2 - 48)) * 10 + (x1 - 48)) * 10 + (x0 - 48)) * 10 + (y1 - 48)) * 10 + (y0 - 48)), .bool true]) ∧ w = w' := by
  have k3 : (x3 == 46) = false := beq_eq_false_iff_ne.2 (by omega)
  have k2 : (x2 == 46) = false := beq_eq_false_iff_ne.2 (by omega)
  have k1 : (x1 == 46) = false := beq_eq_false_iff_ne.2 (by omega)
  have k0 : (x0 == 46) = false := beq_eq_false_iff_ne.2 (by omega)
  have kz : (x3 == 48) = false := beq_eq_false_iff_ne.2 (by omega)
  go_enter Tryd.func14, Tryd.ntmps14
  go_wp2
  refine wp_loop_rounds 5 ?_
  rw [rounds_succ]
  go_wp2
  rw [rounds_succ]
  go_wp2
  rw [rounds_succ]
  go_wp2
  rw [rounds_succ]
  go_wp2
  rw [rounds_succ]
  go_wp2
  refine wp_loop_rounds 8 ?_
  rw [rounds_succ]
  go_wp2
  rw [rounds_succ]
  go_wp2
  rw [rounds_succ]
  go_wp2
  rw [rounds_succ]
  go_wp2
  rw [rounds_succ]
  go_wp2
  rw [rounds_succ]
  go_wp2
  rw [rounds_succ]
  go_wp2
  rw [rounds_succ]
  go_wp2
  go_ret2
  exact ⟨by simp, rfl⟩
end Go.Proofs.Qxb6600045aDoor
