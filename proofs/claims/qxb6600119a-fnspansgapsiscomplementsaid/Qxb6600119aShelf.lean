/-
  SEAT b6600119a: THE SHELF's CONTRACT for slices.IndexFunc AT THIS DUMP, in plain words (written by the kit's tool lay-plain.mjs for this program).
-/
import Derived.Shelf.SlicesQ.IndexFunc
import Derived.Test.Qxb6600119aProg
namespace Go.Proofs
open Go.Shelf
def Try.lays45_ren : Go.Shelf.Ren := ⟨fun | 6 => 45 | n => n, fun | 22 => 41 | 23 => 53 | 25 => 68 | 3 => 3 | 0 => 0 | 4 => 4 | n => n, fun | n => n⟩
set_option maxRecDepth 100000 in
theorem Try.lays45 : Go.Proofs.SlLaysH0.n6 Try.prog Try.lays45_ren := {
  mixed := by kernel_rfl
  f6 := ⟨Try.f45.name, by decide, Try.func45.trans (congrArg some (by kernel_rfl))⟩
  t0 := Try.underlying0
  a0 := Try.isAgg0
  z0 := Try.sizeOf0
  v0 := Try.zeroValue0
  t3 := Try.underlying3
  a3 := Try.isAgg3
  z3 := Try.sizeOf3
  v3 := Try.zeroValue3
  t4 := Try.underlying4
  a4 := Try.isAgg4
  z4 := Try.sizeOf4
  v4 := Try.zeroValue4
  t22 := Try.underlying41
  a22 := Try.isAgg41
  z22 := Try.sizeOf41
  v22 := Try.zeroValue41
  t25 := Try.underlying68
  a25 := Try.isAgg68
  z25 := Try.sizeOf68
  v25 := Try.zeroValue68 }
end Go.Proofs
