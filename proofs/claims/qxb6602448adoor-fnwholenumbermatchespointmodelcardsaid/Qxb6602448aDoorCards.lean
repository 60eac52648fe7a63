/-
  DERIVED. GIVEN WITH THE SEED: THE CARDS: each row of Qxb6602448aDoorRows.lean that lists a variable, with what it lists TIED to the program's text (the seventh form; the later family's looks); each row that meets fmt, with fmt's text TOLD by the authors' own Lean function (tested against real Go, not proved from fmt's source: count such statements apart). THE CARD IS WHAT COUNTS. Prove the row's statement (the work); the ties are given (Qxb6602448aDoorTie.lean); close each card by the builder's one call (the guide's Derived/Test/ToyasCard.lean, 'card_holds'). Laid BY PROGRAM, IN A SANDBOX (cutbox-door.mjs). By AI agents, Wed Nov 11 2026. No macro, syntax, notation, axiom, sorry.
-/
import Derived.Test.Qxb6602448aDoorRows
import GoSem.ClaimSeven
namespace Go.Proofs.Qxb6602448aDoor
namespace Rows

/-- THE TIED CARD OF 'zzlaws_internal_exactjson_b1.FnWholeNumberMatchesPointModel'. -/
def fnWholeNumberMatchesPointModelCard : Claim7 := { stood := { row := fnWholeNumberMatchesPointModelRow, standIns := [], harness := (true, "be2767cd1e87775960557dec8576a743abab03e08c1a458f74d48653bea03938"), looks := false }, kinds := [], alts := [], laidByText := true, laidKinds := [.data, .pinned], laidTests := true, laidLooks := .later }
def FnWholeNumberMatchesPointModelCardSaid : Prop := Claim7.holds Tryd.pinned (.plain (OpenSpec.ofChange fnWholeNumberMatchesPointModelSpec)) fnWholeNumberMatchesPointModelCard

/-- THE TIED CARD OF 'zzlaws_internal_exactjson_b1.FnWholeNumberOutputCanonical'. -/
def fnWholeNumberOutputCanonicalCard : Claim7 := { stood := { row := fnWholeNumberOutputCanonicalRow, standIns := [], harness := (true, "be2767cd1e87775960557dec8576a743abab03e08c1a458f74d48653bea03938"), looks := false }, kinds := [], alts := [], laidByText := true, laidKinds := [.data, .pinned], laidTests := true, laidLooks := .later }
def FnWholeNumberOutputCanonicalCardSaid : Prop := Claim7.holds Tryd.pinned (.plain (OpenSpec.ofChange fnWholeNumberOutputCanonicalSpec)) fnWholeNumberOutputCanonicalCard

/-- THE TIED CARD OF 'zzlaws_internal_exactjson_b1.FnWholeNumberSignSymmetric'. -/
def fnWholeNumberSignSymmetricCard : Claim7 := { stood := { row := fnWholeNumberSignSymmetricRow, standIns := [], harness := (true, "be2767cd1e87775960557dec8576a743abab03e08c1a458f74d48653bea03938"), looks := false }, kinds := [], alts := [], laidByText := true, laidKinds := [.data, .pinned], laidTests := true, laidLooks := .later }
def FnWholeNumberSignSymmetricCardSaid : Prop := Claim7.holds Tryd.pinned (.plain (OpenSpec.ofChange fnWholeNumberSignSymmetricSpec)) fnWholeNumberSignSymmetricCard
end Rows
end Go.Proofs.Qxb6602448aDoor
