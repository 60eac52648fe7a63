/-
  DERIVED. GIVEN WITH THE SEED: THE CARDS: each row of Qxb6602465aDoorRows.lean that lists a variable, with what it lists TIED to the program's text (the seventh form; the later family's looks); each row that meets fmt, with fmt's text TOLD by the authors' own Lean function (tested against real Go, not proved from fmt's source: count such statements apart). THE CARD IS WHAT COUNTS. Prove the row's statement (the work); the ties are given (Qxb6602465aDoorTie.lean); close each card by the builder's one call (the guide's Derived/Test/ToyasCard.lean, 'card_holds'). Laid BY PROGRAM, IN A SANDBOX (cutbox-door.mjs). By AI agents, Wed Nov 11 2026. No macro, syntax, notation, axiom, sorry.
-/
import Derived.Test.Qxb6602465aDoorRows
import GoSem.ClaimSeven
namespace Go.Proofs.Qxb6602465aDoor
namespace Rows

/-- THE TIED CARD OF 'zzlaws_internal_decimal_b1.FnTrimZerosExactCharacterisation'. -/
def fnTrimZerosExactCharacterisationCard : Claim7 := { stood := { row := fnTrimZerosExactCharacterisationRow, standIns := [], harness := (true, "5a1b4d1023af7f894569ae7eddb7d3349d1e4fc959bcb962639b4a91dd2d8557"), looks := false }, kinds := [], alts := [], laidByText := true, laidKinds := [.data, .pinned], laidTests := true, laidLooks := .later }
def FnTrimZerosExactCharacterisationCardSaid : Prop := Claim7.holds Tryd.pinned (.plain (OpenSpec.ofChange fnTrimZerosExactCharacterisationSpec)) fnTrimZerosExactCharacterisationCard

/-- THE TIED CARD OF 'zzlaws_internal_decimal_b1.FnTrimZerosIdempotentOnOnePoint'. -/
def fnTrimZerosIdempotentOnOnePointCard : Claim7 := { stood := { row := fnTrimZerosIdempotentOnOnePointRow, standIns := [], harness := (true, "5a1b4d1023af7f894569ae7eddb7d3349d1e4fc959bcb962639b4a91dd2d8557"), looks := false }, kinds := [], alts := [], laidByText := true, laidKinds := [.data, .pinned], laidTests := true, laidLooks := .later }
def FnTrimZerosIdempotentOnOnePointCardSaid : Prop := Claim7.holds Tryd.pinned (.plain (OpenSpec.ofChange fnTrimZerosIdempotentOnOnePointSpec)) fnTrimZerosIdempotentOnOnePointCard

/-- THE TIED CARD OF 'zzlaws_internal_decimal_b1.FnSignificantDigitsExact'. -/
def fnSignificantDigitsExactCard : Claim7 := { stood := { row := fnSignificantDigitsExactRow, standIns := [], harness := (true, "5a1b4d1023af7f894569ae7eddb7d3349d1e4fc959bcb962639b4a91dd2d8557"), looks := false }, kinds := [], alts := [], laidByText := true, laidKinds := [.data, .pinned], laidTests := true, laidLooks := .later }
def FnSignificantDigitsExactCardSaid : Prop := Claim7.holds Tryd.pinned (.plain (OpenSpec.ofChange fnSignificantDigitsExactSpec)) fnSignificantDigitsExactCard

/-- THE TIED CARD OF 'zzlaws_internal_decimal_b1.FnSignificantDigitsIndependentOfPoint'. -/
def fnSignificantDigitsIndependentOfPointCard : Claim7 := { stood := { row := fnSignificantDigitsIndependentOfPointRow, standIns := [], harness := (true, "5a1b4d1023af7f894569ae7eddb7d3349d1e4fc959bcb962639b4a91dd2d8557"), looks := false }, kinds := [], alts := [], laidByText := true, laidKinds := [.data, .pinned], laidTests := true, laidLooks := .later }
def FnSignificantDigitsIndependentOfPointCardSaid : Prop := Claim7.holds Tryd.pinned (.plain (OpenSpec.ofChange fnSignificantDigitsIndependentOfPointSpec)) fnSignificantDigitsIndependentOfPointCard

/-- THE TIED CARD OF 'zzlaws_internal_decimal_b1.FnSignificantDigitsZeroExactlyOnZero'. -/
def fnSignificantDigitsZeroExactlyOnZeroCard : Claim7 := { stood := { row := fnSignificantDigitsZeroExactlyOnZeroRow, standIns := [], harness := (true, "5a1b4d1023af7f894569ae7eddb7d3349d1e4fc959bcb962639b4a91dd2d8557"), looks := false }, kinds := [], alts := [], laidByText := true, laidKinds := [.data, .pinned], laidTests := true, laidLooks := .later }
def FnSignificantDigitsZeroExactlyOnZeroCardSaid : Prop := Claim7.holds Tryd.pinned (.plain (OpenSpec.ofChange fnSignificantDigitsZeroExactlyOnZeroSpec)) fnSignificantDigitsZeroExactlyOnZeroCard
end Rows
end Go.Proofs.Qxb6602465aDoor
