/-
  NARROWER THAN 'FOR EVERY INPUT', by the rows' own cells (each row's printed sentence says how): FnTrimZerosExactCharacterisation: laid · FnTrimZerosIdempotentOnOnePoint: laid · FnSignificantDigitsExact: laid · FnSignificantDigitsIndependentOfPoint: laid · FnSignificantDigitsZeroExactlyOnZero: laid.
  DERIVED. THE GIVEN ROWS OF THIS SEAT. 5 by the template 'for every input the law returns true; each argument reads behind the call as it read before'; 0 by the template 'total and deterministic' (their statements: Qxb6602465aDoorTotals.lean).
  GIVEN WITH THE SEED: the statements are not yours to turn. If you find one false, say at which input.
  Laid BY PROGRAM, IN A SANDBOX (cutbox-rows.mjs): the forced cells as the released guide's own fill.sh prints them over the translation 58fa15aea07bcb1d… (all of the seat's roots in one cut). By AI agents, Wed Nov 11 2026. No macro, syntax, notation, axiom, sorry.
-/
import Derived.Test.Qxb6602465aDoorChecked
import GoSem.PinnedTables
import GoSem.Claim
import GoSem.ClaimJoined
import GoSem.ClaimMapViews
import Derived.JoinedTies
import Derived.KernelRfl
namespace Go.Proofs.Qxb6602465aDoor
/- THE CELL 'sum', in the pinned program and in every row, IS THE sha256 OF THE DUMP (.gsa) THAT Qxb6602465aDoorProg.lean LOADS. Nothing in Lean hashes anything: it is a label: what it is worth is what the hold of that sum in a sandbox is worth. -/
noncomputable def Tryd.pinned : Pinned := { name := "qxb6602465adoor", sum := "58fa15aea07bcb1da2abfd95c69bc137b9f5ef049d19f8205dba177b0e2fadcf", checked := Tryd.checked }
namespace Rows
def none {H : Type} : Left H := { results := [], args := [] }

/- WHAT THE LISTED PACKAGE-LEVEL VARIABLES READ AS WHEN THE CALL BEGINS. Each datum BY PROGRAM (the guide's laid-datum.mjs) off the statement by which the dump's own 'gosem.cut.vars' lays the variable. In a bare row this is a premise. The card (Qxb6602465aDoorCards.lean) ties it to the program's text. -/
def laid_unicode_utf8_acceptRanges {H : Type} : DataW H := .agg [.agg [.lit (.int .u8 128), .lit (.int .u8 191)], .agg [.lit (.int .u8 160), .lit (.int .u8 191)], .agg [.lit (.int .u8 128), .lit (.int .u8 159)], .agg [.lit (.int .u8 144), .lit (.int .u8 191)], .agg [.lit (.int .u8 128), .lit (.int .u8 143)], .agg [.lit (.int .u8 0), .lit (.int .u8 0)], .agg [.lit (.int .u8 0), .lit (.int .u8 0)], .agg [.lit (.int .u8 0), .lit (.int .u8 0)], .agg [.lit (.int .u8 0), .lit (.int .u8 0)], .agg [.lit (.int .u8 0), .lit (.int .u8 0)], .agg [.lit (.int .u8 0), .lit (.int .u8 0)], .agg [.lit (.int .u8 0), .lit (.int .u8 0)], .agg [.lit (.int .u8 0), .lit (.int .u8 0)], .agg [.lit (.int .u8 0), .lit (.int .u8 0)], .agg [.lit (.int .u8 0), .lit (.int .u8 0)], .agg [.lit (.int .u8 0), .lit (.int .u8 0)]]
/-- One of Go's own tables, pinned by name: the form's constant. -/
def laid_unicode_utf8_first : DataW Unit := Go.Pinned.utf8First

/-- 'zzlaws_internal_decimal_b1.FnTrimZerosExactCharacterisation': WHATEVER THE INPUT: true; the input reads as it did. -/
def fnTrimZerosExactCharacterisationSpec : ChangeSpec := { name := "fnTrimZerosExactCharacterisation", fn := fun _ => fun
  | [d] => { results := [.lit (.bool true)], args := [d] }
  | _ => none }
def fnTrimZerosExactCharacterisationRow : OpenClaim := { program := "qxb6602465adoor", sum := "58fa15aea07bcb1da2abfd95c69bc137b9f5ef049d19f8205dba177b0e2fadcf", func := "example.com/tenure/tenure/zzlaws_internal_decimal_b1.FnTrimZerosExactCharacterisation", spec := "fnTrimZerosExactCharacterisation", inPlace := ["internal/bytealg.IndexByteString", "internal/bytealg.IndexString"], named := ["internal/bytealg.MaxLen", "unicode/utf8.first", "unicode/utf8.acceptRanges"], apart := false, laid := [("unicode/utf8.acceptRanges", laid_unicode_utf8_acceptRanges), ("unicode/utf8.first", laid_unicode_utf8_first)] }
def FnTrimZerosExactCharacterisationSaid : Prop := fnTrimZerosExactCharacterisationRow.holds Tryd.pinned (OpenSpec.ofChange fnTrimZerosExactCharacterisationSpec)

/-- ITS FALSE NEIGHBOUR: 'it returns false'. Refute it at one input. -/
def fnTrimZerosExactCharacterisationWrong : ChangeSpec := { name := "fnTrimZerosExactCharacterisation", fn := fun _ => fun
  | [d] => { results := [.lit (.bool false)], args := [d] }
  | _ => none }
def FnTrimZerosExactCharacterisationWrongFalsely : Prop := fnTrimZerosExactCharacterisationRow.holds Tryd.pinned (OpenSpec.ofChange fnTrimZerosExactCharacterisationWrong)

/-- 'zzlaws_internal_decimal_b1.FnTrimZerosIdempotentOnOnePoint': WHATEVER THE INPUT: true; the input reads as it did. -/
def fnTrimZerosIdempotentOnOnePointSpec : ChangeSpec := { name := "fnTrimZerosIdempotentOnOnePoint", fn := fun _ => fun
  | [d] => { results := [.lit (.bool true)], args := [d] }
  | _ => none }
def fnTrimZerosIdempotentOnOnePointRow : OpenClaim := { program := "qxb6602465adoor", sum := "58fa15aea07bcb1da2abfd95c69bc137b9f5ef049d19f8205dba177b0e2fadcf", func := "example.com/tenure/tenure/zzlaws_internal_decimal_b1.FnTrimZerosIdempotentOnOnePoint", spec := "fnTrimZerosIdempotentOnOnePoint", inPlace := ["internal/bytealg.IndexByteString", "internal/bytealg.IndexString"], named := ["internal/bytealg.MaxLen", "unicode/utf8.first", "unicode/utf8.acceptRanges"], apart := false, laid := [("unicode/utf8.acceptRanges", laid_unicode_utf8_acceptRanges), ("unicode/utf8.first", laid_unicode_utf8_first)] }
def FnTrimZerosIdempotentOnOnePointSaid : Prop := fnTrimZerosIdempotentOnOnePointRow.holds Tryd.pinned (OpenSpec.ofChange fnTrimZerosIdempotentOnOnePointSpec)

/-- ITS FALSE NEIGHBOUR: 'it returns false'. Refute it at one input. -/
def fnTrimZerosIdempotentOnOnePointWrong : ChangeSpec := { name := "fnTrimZerosIdempotentOnOnePoint", fn := fun _ => fun
  | [d] => { results := [.lit (.bool false)], args := [d] }
  | _ => none }
def FnTrimZerosIdempotentOnOnePointWrongFalsely : Prop := fnTrimZerosIdempotentOnOnePointRow.holds Tryd.pinned (OpenSpec.ofChange fnTrimZerosIdempotentOnOnePointWrong)

/-- 'zzlaws_internal_decimal_b1.FnSignificantDigitsExact': WHATEVER THE INPUT: true; the input reads as it did. -/
def fnSignificantDigitsExactSpec : ChangeSpec := { name := "fnSignificantDigitsExact", fn := fun _ => fun
  | [d1, d2, d3, d4] => { results := [.lit (.bool true)], args := [d1, d2, d3, d4] }
  | _ => none }
def fnSignificantDigitsExactRow : OpenClaim := { program := "qxb6602465adoor", sum := "58fa15aea07bcb1da2abfd95c69bc137b9f5ef049d19f8205dba177b0e2fadcf", func := "example.com/tenure/tenure/zzlaws_internal_decimal_b1.FnSignificantDigitsExact", spec := "fnSignificantDigitsExact", inPlace := ["internal/bytealg.IndexByteString", "internal/bytealg.IndexString"], named := ["unicode/utf8.first", "unicode/utf8.acceptRanges", "internal/bytealg.MaxLen"], apart := false, laid := [("unicode/utf8.acceptRanges", laid_unicode_utf8_acceptRanges), ("unicode/utf8.first", laid_unicode_utf8_first)] }
def FnSignificantDigitsExactSaid : Prop := fnSignificantDigitsExactRow.holds Tryd.pinned (OpenSpec.ofChange fnSignificantDigitsExactSpec)

/-- ITS FALSE NEIGHBOUR: 'it returns false'. Refute it at one input. -/
def fnSignificantDigitsExactWrong : ChangeSpec := { name := "fnSignificantDigitsExact", fn := fun _ => fun
  | [d1, d2, d3, d4] => { results := [.lit (.bool false)], args := [d1, d2, d3, d4] }
  | _ => none }
def FnSignificantDigitsExactWrongFalsely : Prop := fnSignificantDigitsExactRow.holds Tryd.pinned (OpenSpec.ofChange fnSignificantDigitsExactWrong)

/-- 'zzlaws_internal_decimal_b1.FnSignificantDigitsIndependentOfPoint': WHATEVER THE INPUT: true; the input reads as it did. -/
def fnSignificantDigitsIndependentOfPointSpec : ChangeSpec := { name := "fnSignificantDigitsIndependentOfPoint", fn := fun _ => fun
  | [d1, d2, d3, d4, d5] => { results := [.lit (.bool true)], args := [d1, d2, d3, d4, d5] }
  | _ => none }
def fnSignificantDigitsIndependentOfPointRow : OpenClaim := { program := "qxb6602465adoor", sum := "58fa15aea07bcb1da2abfd95c69bc137b9f5ef049d19f8205dba177b0e2fadcf", func := "example.com/tenure/tenure/zzlaws_internal_decimal_b1.FnSignificantDigitsIndependentOfPoint", spec := "fnSignificantDigitsIndependentOfPoint", inPlace := ["internal/bytealg.IndexByteString", "internal/bytealg.IndexString"], named := ["unicode/utf8.first", "unicode/utf8.acceptRanges", "internal/bytealg.MaxLen"], apart := false, laid := [("unicode/utf8.acceptRanges", laid_unicode_utf8_acceptRanges), ("unicode/utf8.first", laid_unicode_utf8_first)] }
def FnSignificantDigitsIndependentOfPointSaid : Prop := fnSignificantDigitsIndependentOfPointRow.holds Tryd.pinned (OpenSpec.ofChange fnSignificantDigitsIndependentOfPointSpec)

/-- ITS FALSE NEIGHBOUR: 'it returns false'. Refute it at one input. -/
def fnSignificantDigitsIndependentOfPointWrong : ChangeSpec := { name := "fnSignificantDigitsIndependentOfPoint", fn := fun _ => fun
  | [d1, d2, d3, d4, d5] => { results := [.lit (.bool false)], args := [d1, d2, d3, d4, d5] }
  | _ => none }
def FnSignificantDigitsIndependentOfPointWrongFalsely : Prop := fnSignificantDigitsIndependentOfPointRow.holds Tryd.pinned (OpenSpec.ofChange fnSignificantDigitsIndependentOfPointWrong)

/-- 'zzlaws_internal_decimal_b1.FnSignificantDigitsZeroExactlyOnZero': WHATEVER THE INPUT: true; the input reads as it did. -/
def fnSignificantDigitsZeroExactlyOnZeroSpec : ChangeSpec := { name := "fnSignificantDigitsZeroExactlyOnZero", fn := fun _ => fun
  | [d1, d2, d3, d4] => { results := [.lit (.bool true)], args := [d1, d2, d3, d4] }
  | _ => none }
def fnSignificantDigitsZeroExactlyOnZeroRow : OpenClaim := { program := "qxb6602465adoor", sum := "58fa15aea07bcb1da2abfd95c69bc137b9f5ef049d19f8205dba177b0e2fadcf", func := "example.com/tenure/tenure/zzlaws_internal_decimal_b1.FnSignificantDigitsZeroExactlyOnZero", spec := "fnSignificantDigitsZeroExactlyOnZero", inPlace := ["internal/bytealg.IndexByteString", "internal/bytealg.IndexString"], named := ["unicode/utf8.first", "unicode/utf8.acceptRanges", "internal/bytealg.MaxLen"], apart := false, laid := [("unicode/utf8.acceptRanges", laid_unicode_utf8_acceptRanges), ("unicode/utf8.first", laid_unicode_utf8_first)] }
def FnSignificantDigitsZeroExactlyOnZeroSaid : Prop := fnSignificantDigitsZeroExactlyOnZeroRow.holds Tryd.pinned (OpenSpec.ofChange fnSignificantDigitsZeroExactlyOnZeroSpec)

/-- ITS FALSE NEIGHBOUR: 'it returns false'. Refute it at one input. -/
def fnSignificantDigitsZeroExactlyOnZeroWrong : ChangeSpec := { name := "fnSignificantDigitsZeroExactlyOnZero", fn := fun _ => fun
  | [d1, d2, d3, d4] => { results := [.lit (.bool false)], args := [d1, d2, d3, d4] }
  | _ => none }
def FnSignificantDigitsZeroExactlyOnZeroWrongFalsely : Prop := fnSignificantDigitsZeroExactlyOnZeroRow.holds Tryd.pinned (OpenSpec.ofChange fnSignificantDigitsZeroExactlyOnZeroWrong)

end Rows
end Go.Proofs.Qxb6602465aDoor
