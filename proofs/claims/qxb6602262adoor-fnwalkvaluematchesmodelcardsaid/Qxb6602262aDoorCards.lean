/-
  DERIVED. GIVEN WITH THE SEED: THE CARDS: each row of Qxb6602262aDoorRows.lean that lists a variable, with what it lists TIED to the program's text (the seventh form; the later family's looks); each row that meets fmt, with fmt's text TOLD by the authors' own Lean function (tested against real Go, not proved from fmt's source: count such statements apart). THE CARD IS WHAT COUNTS. Prove the row's statement (the work); the ties are given (Qxb6602262aDoorTie.lean); close each card by the builder's one call (the guide's Derived/Test/ToyasCard.lean, 'card_holds'). Laid BY PROGRAM, IN A SANDBOX (cutbox-door.mjs). By AI agents, Wed Nov 11 2026. No macro, syntax, notation, axiom, sorry.
-/
import Derived.Test.Qxb6602262aDoorRows
import GoSem.ClaimSeven
namespace Go.Proofs.Qxb6602262aDoor
namespace Rows

/-- THE TIED CARD OF 'zzlaws_task_b1.FnWalkValueMatchesModel'. -/
def fnWalkValueMatchesModelCard : Claim7 := { stood := { row := fnWalkValueMatchesModelRow, standIns := [], harness := (true, "4f1efe9bdc93d3dad57086f8f554fa7595f0fb6f2eb0413567f3b7a2266ebf64"), looks := false }, kinds := [], alts := [], laidByText := true, laidKinds := [.data, .pinned], laidTests := true, laidLooks := .later }
def FnWalkValueMatchesModelCardSaid : Prop := Claim7.holds Tryd.pinned (.plain (OpenSpec.ofChange fnWalkValueMatchesModelSpec)) fnWalkValueMatchesModelCard

/-- THE TIED CARD OF 'zzlaws_task_b1.FnWalkValueBoundsAndPrefix'. -/
def fnWalkValueBoundsAndPrefixCard : Claim7 := { stood := { row := fnWalkValueBoundsAndPrefixRow, standIns := [], harness := (true, "4f1efe9bdc93d3dad57086f8f554fa7595f0fb6f2eb0413567f3b7a2266ebf64"), looks := false }, kinds := [], alts := [], laidByText := true, laidKinds := [.data, .pinned], laidTests := true, laidLooks := .later }
def FnWalkValueBoundsAndPrefixCardSaid : Prop := Claim7.holds Tryd.pinned (.plain (OpenSpec.ofChange fnWalkValueBoundsAndPrefixSpec)) fnWalkValueBoundsAndPrefixCard
end Rows
end Go.Proofs.Qxb6602262aDoor
