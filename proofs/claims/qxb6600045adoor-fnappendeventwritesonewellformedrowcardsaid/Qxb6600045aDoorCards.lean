/-
  DERIVED. GIVEN WITH THE SEED: THE CARDS: each row of Qxb6600045aDoorRows.lean that lists a variable, with what it lists TIED to the program's text (the seventh form; the later family's looks); each row that meets fmt, with fmt's text TOLD by the authors' own Lean function (tested against real Go, not proved from fmt's source: count such statements apart). THE CARD IS WHAT COUNTS. Prove the row's statement (the work); the ties are given (Qxb6600045aDoorTie.lean); close each card by the builder's one call (the guide's Derived/Test/ToyasCard.lean, 'card_holds'). Laid BY PROGRAM, IN A SANDBOX (cutbox-door.mjs). By AI agents, Wed Nov 11 2026. No macro, syntax, notation, axiom, sorry.
-/
import Derived.Test.Qxb6600045aDoorRows
import GoSem.ClaimSeven
namespace Go.Proofs.Qxb6600045aDoor
namespace Rows

/-- THE TIED CARD OF 'zzlaws_internal_capturegen_b1.FnAppendEventWritesOneWellFormedRow'. -/
def fnAppendEventWritesOneWellFormedRowCard : Claim7 := { stood := { row := fnAppendEventWritesOneWellFormedRowRow, standIns := [], harness := (true, "caa06aca802c9391584495fdb5eab9d2fe56eea4116ad899486784b8bdca7d6e"), looks := false }, kinds := [], alts := [], laidByText := true, laidKinds := [.data, .data, .data], laidTests := true, laidLooks := .later }
def FnAppendEventWritesOneWellFormedRowCardSaid : Prop := Claim7.holds Tryd.pinned (.plain (OpenSpec.ofChange fnAppendEventWritesOneWellFormedRowSpec)) fnAppendEventWritesOneWellFormedRowCard

/-- THE TIED CARD OF 'zzlaws_internal_capturegen_b1.FnAppendEventScriptKeepsMidInBand'. -/
def fnAppendEventScriptKeepsMidInBandCard : Claim7 := { stood := { row := fnAppendEventScriptKeepsMidInBandRow, standIns := [], harness := (true, "caa06aca802c9391584495fdb5eab9d2fe56eea4116ad899486784b8bdca7d6e"), looks := false }, kinds := [], alts := [], laidByText := true, laidKinds := [.data, .data, .data], laidTests := true, laidLooks := .later }
def FnAppendEventScriptKeepsMidInBandCardSaid : Prop := Claim7.holds Tryd.pinned (.plain (OpenSpec.ofChange fnAppendEventScriptKeepsMidInBandSpec)) fnAppendEventScriptKeepsMidInBandCard

/-- THE TIED CARD OF 'zzlaws_internal_capturegen_b1.FnAppendEventSuffixIgnoresPrefix'. -/
def fnAppendEventSuffixIgnoresPrefixCard : Claim7 := { stood := { row := fnAppendEventSuffixIgnoresPrefixRow, standIns := [], harness := (true, "caa06aca802c9391584495fdb5eab9d2fe56eea4116ad899486784b8bdca7d6e"), looks := false }, kinds := [], alts := [], laidByText := true, laidKinds := [.data, .data, .data], laidTests := true, laidLooks := .later }
def FnAppendEventSuffixIgnoresPrefixCardSaid : Prop := Claim7.holds Tryd.pinned (.plain (OpenSpec.ofChange fnAppendEventSuffixIgnoresPrefixSpec)) fnAppendEventSuffixIgnoresPrefixCard
end Rows
end Go.Proofs.Qxb6600045aDoor
