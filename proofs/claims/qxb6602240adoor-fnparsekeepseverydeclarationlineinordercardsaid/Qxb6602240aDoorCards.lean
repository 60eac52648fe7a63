/-
  DERIVED. GIVEN WITH THE SEED: THE CARDS: each row of Qxb6602240aDoorRows.lean that lists a variable, with what it lists TIED to the program's text (the seventh form; the later family's looks); each row that meets fmt, with fmt's text TOLD by the authors' own Lean function (tested against real Go, not proved from fmt's source: count such statements apart). THE CARD IS WHAT COUNTS. Prove the row's statement (the work); the ties are given (Qxb6602240aDoorTie.lean); close each card by the builder's one call (the guide's Derived/Test/ToyasCard.lean, 'card_holds'). Laid BY PROGRAM, IN A SANDBOX (cutbox-door.mjs). By AI agents, Wed Nov 11 2026. No macro, syntax, notation, axiom, sorry.
-/
import Derived.Test.Qxb6602240aDoorRows
import GoSem.ClaimSeven
namespace Go.Proofs.Qxb6602240aDoor
namespace Rows

/-- THE TIED CARD OF 'zzlaws_internal_apitest_b1.FnParseKeepsEveryDeclarationLineInOrder'. -/
def fnParseKeepsEveryDeclarationLineInOrderCard : Claim7 := { stood := { row := fnParseKeepsEveryDeclarationLineInOrderRow, standIns := [], harness := (true, "d3ba2fd0bfb20e0365a0a9317ca871fbd5d309030ef9f22e4b067c9895614dec"), looks := false }, kinds := [], alts := [], laidByText := true, laidKinds := [.data, .pinned], laidTests := true, laidLooks := .later }
def FnParseKeepsEveryDeclarationLineInOrderCardSaid : Prop := Claim7.holds Tryd.pinned (.plain (OpenSpec.ofChange fnParseKeepsEveryDeclarationLineInOrderSpec)) fnParseKeepsEveryDeclarationLineInOrderCard

/-- THE TIED CARD OF 'zzlaws_internal_apitest_b1.FnParseSplitsOverANewline'. -/
def fnParseSplitsOverANewlineCard : Claim7 := { stood := { row := fnParseSplitsOverANewlineRow, standIns := [], harness := (true, "d3ba2fd0bfb20e0365a0a9317ca871fbd5d309030ef9f22e4b067c9895614dec"), looks := false }, kinds := [], alts := [], laidByText := true, laidKinds := [.data, .pinned], laidTests := true, laidLooks := .later }
def FnParseSplitsOverANewlineCardSaid : Prop := Claim7.holds Tryd.pinned (.plain (OpenSpec.ofChange fnParseSplitsOverANewlineSpec)) fnParseSplitsOverANewlineCard

/-- THE TIED CARD OF 'zzlaws_internal_apitest_b1.FnParseOfItsJoinedOutputIsItself'. -/
def fnParseOfItsJoinedOutputIsItselfCard : Claim7 := { stood := { row := fnParseOfItsJoinedOutputIsItselfRow, standIns := [], harness := (true, "d3ba2fd0bfb20e0365a0a9317ca871fbd5d309030ef9f22e4b067c9895614dec"), looks := false }, kinds := [], alts := [], laidByText := true, laidKinds := [.data, .pinned], laidTests := true, laidLooks := .later }
def FnParseOfItsJoinedOutputIsItselfCardSaid : Prop := Claim7.holds Tryd.pinned (.plain (OpenSpec.ofChange fnParseOfItsJoinedOutputIsItselfSpec)) fnParseOfItsJoinedOutputIsItselfCard
end Rows
end Go.Proofs.Qxb6602240aDoor
