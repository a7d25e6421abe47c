/-
  No cell of these rows narrows 'for every input' (looked for: loops, veiled, ifaces, maps, wideKeys, modest, calm, conditions, laid).
  DERIVED. THE GIVEN ROWS OF THIS SEAT. 8 by the template 'for every input the law returns true; each argument reads behind the call as it read before'; 0 by the template 'total and deterministic' (their statements: Qxb6600119aTotals.lean).
  GIVEN WITH THE SEED: the statements are not yours to turn. If you find one false, say at which input.
  Laid BY PROGRAM, IN A SANDBOX (cutbox-rows.mjs): the forced cells as the released guide's own fill.sh prints them over the translation 58dfde8ed05918c0… (all of the seat's roots in one cut). By AI agents, Wed Nov 11 2026. No macro, syntax, notation, axiom, sorry.
-/
import Derived.Test.Qxb6600119aChecked
import GoSem.Claim
import GoSem.ClaimJoined
import GoSem.ClaimMapViews
import Derived.JoinedTies
import Derived.KernelRfl
namespace Go.Proofs.Qxb6600119a
/- THE CELL 'sum', in the pinned program and in every row, IS THE sha256 OF THE DUMP (.gsa) THAT Qxb6600119aProg.lean LOADS. Nothing in Lean hashes anything: it is a label: what it is worth is what the hold of that sum in a sandbox is worth. -/
noncomputable def Try.pinned : Pinned := { name := "qxb6600119a", sum := "58dfde8ed05918c0c6b4215b69499e5dd15009987a6695a65468b5be57f5bef4", checked := Try.checked }
namespace Rows
def none {H : Type} : Left H := { results := [], args := [] }

/-- 'zzlaws_internal_handshake_b1.FnCertificateMarshalParsesBack': WHATEVER THE INPUT: true; the input reads as it did. -/
def fnCertificateMarshalParsesBackSpec : ChangeSpec := { name := "fnCertificateMarshalParsesBack", fn := fun _ => fun
  | [d1, d2] => { results := [.lit (.bool true)], args := [d1, d2] }
  | _ => none }
def fnCertificateMarshalParsesBackRow : OpenClaim := { program := "qxb6600119a", sum := "58dfde8ed05918c0c6b4215b69499e5dd15009987a6695a65468b5be57f5bef4", func := "example.com/hushgram/hushgram/zzlaws_internal_handshake_b1.FnCertificateMarshalParsesBack", spec := "fnCertificateMarshalParsesBack", unfollowed := true, recurses := true, apart := false }
def FnCertificateMarshalParsesBackSaid : Prop := fnCertificateMarshalParsesBackRow.holds Try.pinned (OpenSpec.ofChange fnCertificateMarshalParsesBackSpec)

/-- ITS FALSE NEIGHBOUR: 'it returns false'. Refute it at one input. -/
def fnCertificateMarshalParsesBackWrong : ChangeSpec := { name := "fnCertificateMarshalParsesBack", fn := fun _ => fun
  | [d1, d2] => { results := [.lit (.bool false)], args := [d1, d2] }
  | _ => none }
def FnCertificateMarshalParsesBackWrongFalsely : Prop := fnCertificateMarshalParsesBackRow.holds Try.pinned (OpenSpec.ofChange fnCertificateMarshalParsesBackWrong)

/-- 'zzlaws_internal_handshake_b1.FnCertificateMarshalChainConcat': WHATEVER THE INPUT: true; the input reads as it did. -/
def fnCertificateMarshalChainConcatSpec : ChangeSpec := { name := "fnCertificateMarshalChainConcat", fn := fun _ => fun
  | [d1, d2, d3] => { results := [.lit (.bool true)], args := [d1, d2, d3] }
  | _ => none }
def fnCertificateMarshalChainConcatRow : OpenClaim := { program := "qxb6600119a", sum := "58dfde8ed05918c0c6b4215b69499e5dd15009987a6695a65468b5be57f5bef4", func := "example.com/hushgram/hushgram/zzlaws_internal_handshake_b1.FnCertificateMarshalChainConcat", spec := "fnCertificateMarshalChainConcat", unfollowed := true, recurses := true, apart := false }
def FnCertificateMarshalChainConcatSaid : Prop := fnCertificateMarshalChainConcatRow.holds Try.pinned (OpenSpec.ofChange fnCertificateMarshalChainConcatSpec)

/-- ITS FALSE NEIGHBOUR: 'it returns false'. Refute it at one input. -/
def fnCertificateMarshalChainConcatWrong : ChangeSpec := { name := "fnCertificateMarshalChainConcat", fn := fun _ => fun
  | [d1, d2, d3] => { results := [.lit (.bool false)], args := [d1, d2, d3] }
  | _ => none }
def FnCertificateMarshalChainConcatWrongFalsely : Prop := fnCertificateMarshalChainConcatRow.holds Try.pinned (OpenSpec.ofChange fnCertificateMarshalChainConcatWrong)

/-- 'zzlaws_internal_handshake_b1.FnSpansAddKeepsCanonicalExactUnion': WHATEVER THE INPUT: true; the input reads as it did. -/
def fnSpansAddKeepsCanonicalExactUnionSpec : ChangeSpec := { name := "fnSpansAddKeepsCanonicalExactUnion", fn := fun _ => fun
  | [d] => { results := [.lit (.bool true)], args := [d] }
  | _ => none }
def fnSpansAddKeepsCanonicalExactUnionRow : OpenClaim := { program := "qxb6600119a", sum := "58dfde8ed05918c0c6b4215b69499e5dd15009987a6695a65468b5be57f5bef4", func := "example.com/hushgram/hushgram/zzlaws_internal_handshake_b1.FnSpansAddKeepsCanonicalExactUnion", spec := "fnSpansAddKeepsCanonicalExactUnion", inPlace := ["slices.overlaps[example.com/hushgram/hushgram/internal/handshake.Span]"], unfollowed := true, recurses := true, apart := false }
def FnSpansAddKeepsCanonicalExactUnionSaid : Prop := fnSpansAddKeepsCanonicalExactUnionRow.holds Try.pinned (OpenSpec.ofChange fnSpansAddKeepsCanonicalExactUnionSpec)

/-- ITS FALSE NEIGHBOUR: 'it returns false'. Refute it at one input. -/
def fnSpansAddKeepsCanonicalExactUnionWrong : ChangeSpec := { name := "fnSpansAddKeepsCanonicalExactUnion", fn := fun _ => fun
  | [d] => { results := [.lit (.bool false)], args := [d] }
  | _ => none }
def FnSpansAddKeepsCanonicalExactUnionWrongFalsely : Prop := fnSpansAddKeepsCanonicalExactUnionRow.holds Try.pinned (OpenSpec.ofChange fnSpansAddKeepsCanonicalExactUnionWrong)

/-- 'zzlaws_internal_handshake_b1.FnSpansAddOrderFree': WHATEVER THE INPUT: true; the input reads as it did. -/
def fnSpansAddOrderFreeSpec : ChangeSpec := { name := "fnSpansAddOrderFree", fn := fun _ => fun
  | [d] => { results := [.lit (.bool true)], args := [d] }
  | _ => none }
def fnSpansAddOrderFreeRow : OpenClaim := { program := "qxb6600119a", sum := "58dfde8ed05918c0c6b4215b69499e5dd15009987a6695a65468b5be57f5bef4", func := "example.com/hushgram/hushgram/zzlaws_internal_handshake_b1.FnSpansAddOrderFree", spec := "fnSpansAddOrderFree", inPlace := ["slices.overlaps[example.com/hushgram/hushgram/internal/handshake.Span]"], unfollowed := true, recurses := true, apart := false }
def FnSpansAddOrderFreeSaid : Prop := fnSpansAddOrderFreeRow.holds Try.pinned (OpenSpec.ofChange fnSpansAddOrderFreeSpec)

/-- ITS FALSE NEIGHBOUR: 'it returns false'. Refute it at one input. -/
def fnSpansAddOrderFreeWrong : ChangeSpec := { name := "fnSpansAddOrderFree", fn := fun _ => fun
  | [d] => { results := [.lit (.bool false)], args := [d] }
  | _ => none }
def FnSpansAddOrderFreeWrongFalsely : Prop := fnSpansAddOrderFreeRow.holds Try.pinned (OpenSpec.ofChange fnSpansAddOrderFreeWrong)

/-- 'zzlaws_internal_handshake_b1.FnSpansAddIdempotent': WHATEVER THE INPUT: true; the input reads as it did. -/
def fnSpansAddIdempotentSpec : ChangeSpec := { name := "fnSpansAddIdempotent", fn := fun _ => fun
  | [d] => { results := [.lit (.bool true)], args := [d] }
  | _ => none }
def fnSpansAddIdempotentRow : OpenClaim := { program := "qxb6600119a", sum := "58dfde8ed05918c0c6b4215b69499e5dd15009987a6695a65468b5be57f5bef4", func := "example.com/hushgram/hushgram/zzlaws_internal_handshake_b1.FnSpansAddIdempotent", spec := "fnSpansAddIdempotent", inPlace := ["slices.overlaps[example.com/hushgram/hushgram/internal/handshake.Span]"], unfollowed := true, recurses := true, apart := false }
def FnSpansAddIdempotentSaid : Prop := fnSpansAddIdempotentRow.holds Try.pinned (OpenSpec.ofChange fnSpansAddIdempotentSpec)

/-- ITS FALSE NEIGHBOUR: 'it returns false'. Refute it at one input. -/
def fnSpansAddIdempotentWrong : ChangeSpec := { name := "fnSpansAddIdempotent", fn := fun _ => fun
  | [d] => { results := [.lit (.bool false)], args := [d] }
  | _ => none }
def FnSpansAddIdempotentWrongFalsely : Prop := fnSpansAddIdempotentRow.holds Try.pinned (OpenSpec.ofChange fnSpansAddIdempotentWrong)

/-- 'zzlaws_internal_handshake_b1.FnSpansGapsIsComplement': WHATEVER THE INPUT: true; the input reads as it did. -/
def fnSpansGapsIsComplementSpec : ChangeSpec := { name := "fnSpansGapsIsComplement", fn := fun _ => fun
  | [d1, d2] => { results := [.lit (.bool true)], args := [d1, d2] }
  | _ => none }
def fnSpansGapsIsComplementRow : OpenClaim := { program := "qxb6600119a", sum := "58dfde8ed05918c0c6b4215b69499e5dd15009987a6695a65468b5be57f5bef4", func := "example.com/hushgram/hushgram/zzlaws_internal_handshake_b1.FnSpansGapsIsComplement", spec := "fnSpansGapsIsComplement", inPlace := ["slices.overlaps[example.com/hushgram/hushgram/internal/handshake.Span]"], unfollowed := true, recurses := true, apart := false }
def FnSpansGapsIsComplementSaid : Prop := fnSpansGapsIsComplementRow.holds Try.pinned (OpenSpec.ofChange fnSpansGapsIsComplementSpec)

/-- ITS FALSE NEIGHBOUR: 'it returns false'. Refute it at one input. -/
def fnSpansGapsIsComplementWrong : ChangeSpec := { name := "fnSpansGapsIsComplement", fn := fun _ => fun
  | [d1, d2] => { results := [.lit (.bool false)], args := [d1, d2] }
  | _ => none }
def FnSpansGapsIsComplementWrongFalsely : Prop := fnSpansGapsIsComplementRow.holds Try.pinned (OpenSpec.ofChange fnSpansGapsIsComplementWrong)

/-- 'zzlaws_internal_handshake_b1.FnSpansGapsTwiceIsClip': WHATEVER THE INPUT: true; the input reads as it did. -/
def fnSpansGapsTwiceIsClipSpec : ChangeSpec := { name := "fnSpansGapsTwiceIsClip", fn := fun _ => fun
  | [d1, d2] => { results := [.lit (.bool true)], args := [d1, d2] }
  | _ => none }
def fnSpansGapsTwiceIsClipRow : OpenClaim := { program := "qxb6600119a", sum := "58dfde8ed05918c0c6b4215b69499e5dd15009987a6695a65468b5be57f5bef4", func := "example.com/hushgram/hushgram/zzlaws_internal_handshake_b1.FnSpansGapsTwiceIsClip", spec := "fnSpansGapsTwiceIsClip", inPlace := ["slices.overlaps[example.com/hushgram/hushgram/internal/handshake.Span]"], unfollowed := true, recurses := true, apart := false }
def FnSpansGapsTwiceIsClipSaid : Prop := fnSpansGapsTwiceIsClipRow.holds Try.pinned (OpenSpec.ofChange fnSpansGapsTwiceIsClipSpec)

/-- ITS FALSE NEIGHBOUR: 'it returns false'. Refute it at one input. -/
def fnSpansGapsTwiceIsClipWrong : ChangeSpec := { name := "fnSpansGapsTwiceIsClip", fn := fun _ => fun
  | [d1, d2] => { results := [.lit (.bool false)], args := [d1, d2] }
  | _ => none }
def FnSpansGapsTwiceIsClipWrongFalsely : Prop := fnSpansGapsTwiceIsClipRow.holds Try.pinned (OpenSpec.ofChange fnSpansGapsTwiceIsClipWrong)

/-- 'zzlaws_internal_handshake_b1.FnSpansGapsTileWithClip': WHATEVER THE INPUT: true; the input reads as it did. -/
def fnSpansGapsTileWithClipSpec : ChangeSpec := { name := "fnSpansGapsTileWithClip", fn := fun _ => fun
  | [d1, d2] => { results := [.lit (.bool true)], args := [d1, d2] }
  | _ => none }
def fnSpansGapsTileWithClipRow : OpenClaim := { program := "qxb6600119a", sum := "58dfde8ed05918c0c6b4215b69499e5dd15009987a6695a65468b5be57f5bef4", func := "example.com/hushgram/hushgram/zzlaws_internal_handshake_b1.FnSpansGapsTileWithClip", spec := "fnSpansGapsTileWithClip", inPlace := ["slices.overlaps[example.com/hushgram/hushgram/internal/handshake.Span]"], unfollowed := true, recurses := true, apart := false }
def FnSpansGapsTileWithClipSaid : Prop := fnSpansGapsTileWithClipRow.holds Try.pinned (OpenSpec.ofChange fnSpansGapsTileWithClipSpec)

/-- ITS FALSE NEIGHBOUR: 'it returns false'. Refute it at one input. -/
def fnSpansGapsTileWithClipWrong : ChangeSpec := { name := "fnSpansGapsTileWithClip", fn := fun _ => fun
  | [d1, d2] => { results := [.lit (.bool false)], args := [d1, d2] }
  | _ => none }
def FnSpansGapsTileWithClipWrongFalsely : Prop := fnSpansGapsTileWithClipRow.holds Try.pinned (OpenSpec.ofChange fnSpansGapsTileWithClipWrong)

end Rows
end Go.Proofs.Qxb6600119a
