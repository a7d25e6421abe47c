/-
  SEAT b6600045aD: (*generator).next (function 20) and ZZNext (17), each once; a generator's block.
-/
import Derived.Test.Qxb6600045aDoorRows
import Derived.WalkKit
import Derived.WalkSpells
import Derived.RegionTactic
import Derived.BigRegion
import Derived.RowKit3
import Derived.Laws.Bits64
import Derived.Laws.Rows
import Derived.Lib.OthersKept
namespace Go.Proofs.Qxb6600045aDoor
open Go.RowKit

/-- The counter's step, and the three steps of the mix, in the walk's own spelling. -/
def stp (r : Int) : Int := IntKind.u64.wrap (r + 11400714819323198485)
def mx1 (s : Int) : Int := IntKind.u64.wrap (bits BinOp.xor IntKind.u64 s (s / 1073741824) * 13787848793156543929)
def mx2 (s : Int) : Int := IntKind.u64.wrap (bits BinOp.xor IntKind.u64 s (s / 134217728) * 10723151780598845931)
def mx3 (s : Int) : Int := bits BinOp.xor IntKind.u64 s (s / 2147483648)
def mixI (s : Int) : Int := mx3 (mx2 (mx1 s))
theorem word_wrap (a : Int) : 0 ≤ IntKind.u64.wrap a ∧ IntKind.u64.wrap a < 18446744073709551616 := by
  rw [IntKind.wrap_u64]; omega
theorem mix_word (s : Int) : 0 ≤ mixI s ∧ mixI s < 18446744073709551616 := word_wrap _

/-- (*generator).next: the counter steps; the mix of the new counter comes back. -/
theorem next_any (b : Nat) (r : Int) (w : World)
    (h0 : w.cell? ⟨b, 0, none⟩ = some (.int .u64 r)) (hf : w.frozen? ⟨b, 0, none⟩ = false) :
    Calls Tryd.prog 20 #[.pointer (some ⟨b, 0, none⟩)] w fun e w' => e = .returned (.int .u64 (mixI (stp r))) ∧ w' = w.setCell ⟨b, 0, none⟩ (.int .u64 (stp r)) := by
  go_enter Tryd.func20, Tryd.ntmps20
  go_wp2
  go_ret
  exact ⟨rfl, rfl⟩

/-- Block b holds a generator (t: its type's number). -/
abbrev genObj (t : TypeId) (r m s : Int) : Obj := .cells #[.int .u64 r, .int .i64 m, .int .i64 s] t
structure Gen (t : TypeId) (b : Nat) (r m s : Int) (w : World) : Prop where
  obj : w.heap[b]? = some (genObj t r m s)
namespace Gen
variable {t : TypeId} {b : Nat} {r m s : Int} {w : World}
theorem lt (h : Gen t b r m s w) : b < w.heap.size := (Array.getElem?_eq_some_iff.1 h.obj).1
theorem c0 (h : Gen t b r m s w) : w.cell? ⟨b, 0, none⟩ = some (.int .u64 r) := by rw [cell_of_row w b 0 _ t _ h.obj]; rfl
theorem c1 (h : Gen t b r m s w) : w.cell? ⟨b, 1, none⟩ = some (.int .i64 m) := by rw [cell_of_row w b 1 _ t _ h.obj]; rfl
theorem c2 (h : Gen t b r m s w) : w.cell? ⟨b, 2, none⟩ = some (.int .i64 s) := by rw [cell_of_row w b 2 _ t _ h.obj]; rfl
theorem fz (h : Gen t b r m s w) (o : Nat) : w.frozen? ⟨b, o, none⟩ = false := by simp [World.frozen?, h.obj]
theorem set0 (h : Gen t b r m s w) (x : Int) : Gen t b x m s (w.setCell ⟨b, 0, none⟩ (.int .u64 x)) := by
  refine ⟨?_⟩
  simp only [World.setCell, Array.getElem?_modify, h.obj]
  simp
theorem set1 (h : Gen t b r m s w) (x : Int) : Gen t b r x s (w.setCell ⟨b, 1, none⟩ (.int .i64 x)) := by
  refine ⟨?_⟩
  simp only [World.setCell, Array.getElem?_modify, h.obj]
  simp
theorem set2 (h : Gen t b r m s w) (x : Int) : Gen t b r m x (w.setCell ⟨b, 2, none⟩ (.int .i64 x)) := by
  refine ⟨?_⟩
  simp only [World.setCell, Array.getElem?_modify, h.obj]
  simp
theorem alloc (h : Gen t b r m s w) (o : Obj) : Gen t b r m s (w.alloc o) := ⟨(Below.heap_alloc _ _ _ h.lt).trans h.obj⟩
theorem drew (h : Gen t b r m s w) : Gen t b r m s w.drew := ⟨h.obj⟩
theorem new (t : TypeId) (r m s : Int) (w : World) : Gen t w.heap.size r m s (w.alloc (genObj t r m s)) := by
  refine ⟨?_⟩
  show (w.heap.push _)[w.heap.size]? = _
  simp
theorem other (h : Gen t b r m s w) {c : Nat} (hc : b ≠ c) (o : Nat) (v : Value) : Gen t b r m s (w.setCell ⟨c, o, none⟩ v) := ⟨(Below.heap_setCell _ _ _ _ hc).trans h.obj⟩
/-- A generator's block is no row of bytes. -/
theorem kept (h : Gen t b r m s w) (ht : t ≠ 5) {w' : World} {c : Option Nat} (hk : Lib.OthersKept 5 c w w') (hc : some b ≠ c) : Gen t b r m s w' :=
  ⟨hk b _ h.obj hc (fun x fz e => by injection e with _ e2; exact ht e2)⟩
end Gen

theorem zznext_any (b : Nat) (r m s : Int) (w : World) (h : Gen 27 b r m s w) :
    Calls Tryd.prog 17 #[.pointer (some ⟨b, 0, none⟩)] w fun e w' => e = .returned (.int .u64 (mixI (stp r))) ∧ Gen 27 b (stp r) m s w' ∧ w.grownBy w' (some b) := by
  have h0 := h.c0; have h1 := h.c1; have h2 := h.c2; have f0 := h.fz 0; have f1 := h.fz 1; have f2 := h.fz 2; have hb := h.lt
  go_enter Tryd.func17, Tryd.ntmps17
  go_wp2
  go_region
  go_wp2_with fail
  refine (next_any _ r _ (by go_simp) (by go_simp)).mono ?_
  rintro e w' ⟨rfl, rfl⟩
  go_wp2
  go_ret
  refine ⟨rfl, ?_, ⟨rfl, rfl, rfl, ?_, fun k hk hne => ?_⟩⟩
  · exact ((((h.set0 _).set1 _).set2 _).alloc _).drew
  · simp [World.drew, World.setCell]
  · have hb : k ≠ b := fun e => hne (by rw [e])
    refine (Below.heap_alloc _ _ _ (by simpa [World.setCell] using hk)).trans ?_
    rw [Below.heap_setCell _ _ _ _ hb, Below.heap_setCell _ _ _ _ hb, Below.heap_setCell _ _ _ _ hb]
end Go.Proofs.Qxb6600045aDoor
