/-
  SEAT b6600045a: THE SHARED WALKS: (*generator).next (function 15) and ZZNext (function 7), each once.
-/
import Derived.Test.Qxb6600045aRows
import Derived.WalkKit
import Derived.WalkSpells
import Derived.RegionTactic
import Derived.BigRegion
import Derived.RowKit3
import Derived.Laws.Bits64
namespace Go.Proofs.Qxb6600045a
open Go.RowKit

/-- The counter's step, and the three steps of the mix, in the walk's own spelling. -/
def stp (r : Int) : Int := IntKind.u64.wrap (r + 11400714819323198485)
def mx1 (s : Int) : Int := IntKind.u64.wrap (bits BinOp.xor IntKind.u64 s (s / 1073741824) * 13787848793156543929)
def mx2 (s : Int) : Int := IntKind.u64.wrap (bits BinOp.xor IntKind.u64 s (s / 134217728) * 10723151780598845931)
def mx3 (s : Int) : Int := bits BinOp.xor IntKind.u64 s (s / 2147483648)
def mixI (s : Int) : Int := mx3 (mx2 (mx1 s))

/-- (*generator).next: the counter steps; the mix of the new counter comes back. -/
theorem next_any (b : Nat) (r : Int) (w : World)
    (h0 : w.cell? ⟨b, 0, none⟩ = some (.int .u64 r)) (hf : w.frozen? ⟨b, 0, none⟩ = false) :
    Calls Try.prog 15 #[.pointer (some ⟨b, 0, none⟩)] w fun e w' => e = .returned (.int .u64 (mixI (stp r))) ∧ w' = w.setCell ⟨b, 0, none⟩ (.int .u64 (stp r)) := by
  go_enter Try.func15, Try.ntmps15
  go_wp2
  go_ret
  exact ⟨rfl, rfl⟩

/-- The three cells of a ZZGen in block b. -/
structure Gen (b : Nat) (r m s : Int) (w : World) : Prop where
  c0 : w.cell? ⟨b, 0, none⟩ = some (.int .u64 r)
  c1 : w.cell? ⟨b, 1, none⟩ = some (.int .i64 m)
  c2 : w.cell? ⟨b, 2, none⟩ = some (.int .i64 s)
  f0 : w.frozen? ⟨b, 0, none⟩ = false
  f1 : w.frozen? ⟨b, 1, none⟩ = false
  f2 : w.frozen? ⟨b, 2, none⟩ = false
  lt : b < w.heap.size

/-- Behind ZZNext: of the old blocks b alone has turned; no mark has turned. -/
structure Ran (b : Nat) (w w' : World) : Prop where
  fz : ∀ a, w'.frozen? a = w.frozen? a
  grown : w.grownBy w' (some b)

theorem ran_mk (b : Nat) (x y z : Value) (c : Array Value) (t : TypeId) (w : World) :
    Ran b w (((((w.setCell ⟨b, 0, none⟩ x).setCell ⟨b, 1, none⟩ y).setCell ⟨b, 2, none⟩ z).alloc (.cells c t)).drew) := by
  refine ⟨fun a => ?_, ⟨rfl, rfl, rfl, ?_, fun k hk hne => ?_⟩⟩
  · show ((((w.setCell ⟨b, 0, none⟩ x).setCell ⟨b, 1, none⟩ y).setCell ⟨b, 2, none⟩ z).alloc (.cells c t)).frozen? a = _
    rw [frozen?_alloc_cells, World.frozen?_setCell, World.frozen?_setCell, World.frozen?_setCell]
  · simp [World.drew, World.alloc, World.setCell]
  · have hb : k ≠ b := fun e => hne (by rw [e])
    show ((((w.setCell ⟨b, 0, none⟩ x).setCell ⟨b, 1, none⟩ y).setCell ⟨b, 2, none⟩ z).alloc (.cells c t)).heap[k]? = _
    rw [Below.heap_alloc _ _ _ (by simpa [World.setCell] using hk), Below.heap_setCell _ _ _ _ hb, Below.heap_setCell _ _ _ _ hb, Below.heap_setCell _ _ _ _ hb]

theorem zznext_any (b : Nat) (r m s : Int) (w : World) (h : Gen b r m s w) :
    Calls Try.prog 7 #[.pointer (some ⟨b, 0, none⟩)] w fun e w' => e = .returned (.int .u64 (mixI (stp r))) ∧ Gen b (stp r) m s w' ∧ Ran b w w' := by
  obtain ⟨h0, h1, h2, f0, f1, f2, hb⟩ := h
  go_enter Try.func7, Try.ntmps7
  go_wp2
  go_region
  go_wp2_with fail
  refine (next_any _ r _ (by go_simp) (by go_simp)).mono ?_
  rintro e w' ⟨rfl, rfl⟩
  go_wp2
  go_ret
  refine ⟨rfl, ?_, ran_mk b _ _ _ _ _ w⟩
  refine ⟨by go_simp, by go_simp, by go_simp, by go_simp, by go_simp, by go_simp, by simp [World.drew, World.alloc, World.setCell]; omega⟩
end Go.Proofs.Qxb6600045a
