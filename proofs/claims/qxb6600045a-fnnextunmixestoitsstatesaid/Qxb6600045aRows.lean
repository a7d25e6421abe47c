/-
  No cell of these rows narrows 'for every input' (looked for: loops, veiled, ifaces, maps, wideKeys, modest, calm, conditions, laid).
  DERIVED. THE GIVEN ROWS OF THIS SEAT. 4 by the template 'for every input the law returns true; each argument reads behind the call as it read before'; 0 by the template 'total and deterministic' (their statements: Qxb6600045aTotals.lean).
  GIVEN WITH THE SEED: the statements are not yours to turn. If you find one false, say at which input.
  Laid BY PROGRAM, IN A SANDBOX (cutbox-rows.mjs): the forced cells as the released guide's own fill.sh prints them over the translation e4380c8c061fd2d9… (all of the seat's roots in one cut). By AI agents, Wed Nov 11 2026. No macro, syntax, notation, axiom, sorry.
-/
import Derived.Test.Qxb6600045aChecked
import GoSem.Claim
import GoSem.ClaimJoined
import GoSem.ClaimMapViews
import Derived.JoinedTies
import Derived.KernelRfl
namespace Go.Proofs.Qxb6600045a
/- THE CELL 'sum', in the pinned program and in every row, IS THE sha256 OF THE DUMP (.gsa) THAT Qxb6600045aProg.lean LOADS. Nothing in Lean hashes anything: it is a label: what it is worth is what the hold of that sum in a sandbox is worth. -/
noncomputable def Try.pinned : Pinned := { name := "qxb6600045a", sum := "e4380c8c061fd2d91a9c6c24a2ea723848075c1dc67b94050985a58482dc256d", checked := Try.checked }
namespace Rows
def none {H : Type} : Left H := { results := [], args := [] }

/-- 'zzlaws_internal_capturegen_b1.FnNextUnmixesToItsState': WHATEVER THE INPUT: true; the input reads as it did. -/
def fnNextUnmixesToItsStateSpec : ChangeSpec := { name := "fnNextUnmixesToItsState", fn := fun _ => fun
  | [d1, d2, d3] => { results := [.lit (.bool true)], args := [d1, d2, d3] }
  | _ => none }
def fnNextUnmixesToItsStateRow : OpenClaim := { program := "qxb6600045a", sum := "e4380c8c061fd2d91a9c6c24a2ea723848075c1dc67b94050985a58482dc256d", func := "example.com/haltline/haltline/zzlaws_internal_capturegen_b1.FnNextUnmixesToItsState", spec := "fnNextUnmixesToItsState", apart := false }
def FnNextUnmixesToItsStateSaid : Prop := fnNextUnmixesToItsStateRow.holds Try.pinned (OpenSpec.ofChange fnNextUnmixesToItsStateSpec)

/-- ITS FALSE NEIGHBOUR: 'it returns false'. Refute it at one input. -/
def fnNextUnmixesToItsStateWrong : ChangeSpec := { name := "fnNextUnmixesToItsState", fn := fun _ => fun
  | [d1, d2, d3] => { results := [.lit (.bool false)], args := [d1, d2, d3] }
  | _ => none }
def FnNextUnmixesToItsStateWrongFalsely : Prop := fnNextUnmixesToItsStateRow.holds Try.pinned (OpenSpec.ofChange fnNextUnmixesToItsStateWrong)

/-- 'zzlaws_internal_capturegen_b1.FnNextJumpsAhead': WHATEVER THE INPUT: true; the input reads as it did. -/
def fnNextJumpsAheadSpec : ChangeSpec := { name := "fnNextJumpsAhead", fn := fun _ => fun
  | [d1, d2, d3, d4, d5, d6] => { results := [.lit (.bool true)], args := [d1, d2, d3, d4, d5, d6] }
  | _ => none }
def fnNextJumpsAheadRow : OpenClaim := { program := "qxb6600045a", sum := "e4380c8c061fd2d91a9c6c24a2ea723848075c1dc67b94050985a58482dc256d", func := "example.com/haltline/haltline/zzlaws_internal_capturegen_b1.FnNextJumpsAhead", spec := "fnNextJumpsAhead", apart := false }
def FnNextJumpsAheadSaid : Prop := fnNextJumpsAheadRow.holds Try.pinned (OpenSpec.ofChange fnNextJumpsAheadSpec)

/-- ITS FALSE NEIGHBOUR: 'it returns false'. Refute it at one input. -/
def fnNextJumpsAheadWrong : ChangeSpec := { name := "fnNextJumpsAhead", fn := fun _ => fun
  | [d1, d2, d3, d4, d5, d6] => { results := [.lit (.bool false)], args := [d1, d2, d3, d4, d5, d6] }
  | _ => none }
def FnNextJumpsAheadWrongFalsely : Prop := fnNextJumpsAheadRow.holds Try.pinned (OpenSpec.ofChange fnNextJumpsAheadWrong)

/-- 'zzlaws_internal_capturegen_b1.FnAppendLineUnquotesToItsLine': WHATEVER THE INPUT: true; the input reads as it did. -/
def fnAppendLineUnquotesToItsLineSpec : ChangeSpec := { name := "fnAppendLineUnquotesToItsLine", fn := fun _ => fun
  | [d1, d2, d3, d4] => { results := [.lit (.bool true)], args := [d1, d2, d3, d4] }
  | _ => none }
def fnAppendLineUnquotesToItsLineRow : OpenClaim := { program := "qxb6600045a", sum := "e4380c8c061fd2d91a9c6c24a2ea723848075c1dc67b94050985a58482dc256d", func := "example.com/haltline/haltline/zzlaws_internal_capturegen_b1.FnAppendLineUnquotesToItsLine", spec := "fnAppendLineUnquotesToItsLine", inPlace := ["internal/bytealg.IndexByte", "internal/bytealg.Index"], named := ["internal/bytealg.MaxLen"], apart := false }
def FnAppendLineUnquotesToItsLineSaid : Prop := fnAppendLineUnquotesToItsLineRow.holds Try.pinned (OpenSpec.ofChange fnAppendLineUnquotesToItsLineSpec)

/-- ITS FALSE NEIGHBOUR: 'it returns false'. Refute it at one input. -/
def fnAppendLineUnquotesToItsLineWrong : ChangeSpec := { name := "fnAppendLineUnquotesToItsLine", fn := fun _ => fun
  | [d1, d2, d3, d4] => { results := [.lit (.bool false)], args := [d1, d2, d3, d4] }
  | _ => none }
def FnAppendLineUnquotesToItsLineWrongFalsely : Prop := fnAppendLineUnquotesToItsLineRow.holds Try.pinned (OpenSpec.ofChange fnAppendLineUnquotesToItsLineWrong)

/-- 'zzlaws_internal_capturegen_b1.FnAppendLineHeaderQuotesLikeQuotedAll': WHATEVER THE INPUT: true; the input reads as it did. -/
def fnAppendLineHeaderQuotesLikeQuotedAllSpec : ChangeSpec := { name := "fnAppendLineHeaderQuotesLikeQuotedAll", fn := fun _ => fun
  | [d1, d2] => { results := [.lit (.bool true)], args := [d1, d2] }
  | _ => none }
def fnAppendLineHeaderQuotesLikeQuotedAllRow : OpenClaim := { program := "qxb6600045a", sum := "e4380c8c061fd2d91a9c6c24a2ea723848075c1dc67b94050985a58482dc256d", func := "example.com/haltline/haltline/zzlaws_internal_capturegen_b1.FnAppendLineHeaderQuotesLikeQuotedAll", spec := "fnAppendLineHeaderQuotesLikeQuotedAll", inPlace := ["internal/bytealg.IndexByte", "internal/bytealg.Index"], named := ["internal/bytealg.MaxLen"], apart := false }
def FnAppendLineHeaderQuotesLikeQuotedAllSaid : Prop := fnAppendLineHeaderQuotesLikeQuotedAllRow.holds Try.pinned (OpenSpec.ofChange fnAppendLineHeaderQuotesLikeQuotedAllSpec)

/-- ITS FALSE NEIGHBOUR: 'it returns false'. Refute it at one input. -/
def fnAppendLineHeaderQuotesLikeQuotedAllWrong : ChangeSpec := { name := "fnAppendLineHeaderQuotesLikeQuotedAll", fn := fun _ => fun
  | [d1, d2] => { results := [.lit (.bool false)], args := [d1, d2] }
  | _ => none }
def FnAppendLineHeaderQuotesLikeQuotedAllWrongFalsely : Prop := fnAppendLineHeaderQuotesLikeQuotedAllRow.holds Try.pinned (OpenSpec.ofChange fnAppendLineHeaderQuotesLikeQuotedAllWrong)

end Rows
end Go.Proofs.Qxb6600045a
