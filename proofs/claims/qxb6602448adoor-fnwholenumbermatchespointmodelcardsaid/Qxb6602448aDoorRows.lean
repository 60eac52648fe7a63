/-
  NARROWER THAN 'FOR EVERY INPUT', by the rows' own cells (each row's printed sentence says how): FnWholeNumberMatchesPointModel: laid · FnWholeNumberOutputCanonical: laid · FnWholeNumberSignSymmetric: laid.
  DERIVED. THE GIVEN ROWS OF THIS SEAT. 3 by the template 'for every input the law returns true; each argument reads behind the call as it read before'; 0 by the template 'total and deterministic' (their statements: Qxb6602448aDoorTotals.lean).
  GIVEN WITH THE SEED: the statements are not yours to turn. If you find one false, say at which input.
  Laid BY PROGRAM, IN A SANDBOX (cutbox-rows.mjs): the forced cells as the released guide's own fill.sh prints them over the translation 77c8f68ea5fc8a9d… (all of the seat's roots in one cut). By AI agents, Wed Nov 11 2026. No macro, syntax, notation, axiom, sorry.
-/
import Derived.Test.Qxb6602448aDoorChecked
import GoSem.PinnedTables
import GoSem.Claim
import GoSem.ClaimJoined
import GoSem.ClaimMapViews
import Derived.JoinedTies
import Derived.KernelRfl
namespace Go.Proofs.Qxb6602448aDoor
/- THE CELL 'sum', in the pinned program and in every row, IS THE sha256 OF THE DUMP (.gsa) THAT Qxb6602448aDoorProg.lean LOADS. Nothing in Lean hashes anything: it is a label: what it is worth is what the hold of that sum in a sandbox is worth. -/
noncomputable def Tryd.pinned : Pinned := { name := "qxb6602448adoor", sum := "77c8f68ea5fc8a9da598a6b04baa3edf10a95301f42787ec07ad05c3c7e8ac93", checked := Tryd.checked }
namespace Rows
def none {H : Type} : Left H := { results := [], args := [] }

/- WHAT THE LISTED PACKAGE-LEVEL VARIABLES READ AS WHEN THE CALL BEGINS. Each datum BY PROGRAM (the guide's laid-datum.mjs) off the statement by which the dump's own 'gosem.cut.vars' lays the variable. In a bare row this is a premise. The card (Qxb6602448aDoorCards.lean) ties it to the program's text. -/
def laid_unicode_utf8_acceptRanges {H : Type} : DataW H := .agg [.agg [.lit (.int .u8 128), .lit (.int .u8 191)], .agg [.lit (.int .u8 160), .lit (.int .u8 191)], .agg [.lit (.int .u8 128), .lit (.int .u8 159)], .agg [.lit (.int .u8 144), .lit (.int .u8 191)], .agg [.lit (.int .u8 128), .lit (.int .u8 143)], .agg [.lit (.int .u8 0), .lit (.int .u8 0)], .agg [.lit (.int .u8 0), .lit (.int .u8 0)], .agg [.lit (.int .u8 0), .lit (.int .u8 0)], .agg [.lit (.int .u8 0), .lit (.int .u8 0)], .agg [.lit (.int .u8 0), .lit (.int .u8 0)], .agg [.lit (.int .u8 0), .lit (.int .u8 0)], .agg [.lit (.int .u8 0), .lit (.int .u8 0)], .agg [.lit (.int .u8 0), .lit (.int .u8 0)], .agg [.lit (.int .u8 0), .lit (.int .u8 0)], .agg [.lit (.int .u8 0), .lit (.int .u8 0)], .agg [.lit (.int .u8 0), .lit (.int .u8 0)]]
/-- One of Go's own tables, pinned by name: the form's constant. -/
def laid_unicode_utf8_first : DataW Unit := Go.Pinned.utf8First

/-- 'zzlaws_internal_exactjson_b1.FnWholeNumberMatchesPointModel': WHATEVER THE INPUT: true; the input reads as it did. -/
def fnWholeNumberMatchesPointModelSpec : ChangeSpec := { name := "fnWholeNumberMatchesPointModel", fn := fun _ => fun
  | [d] => { results := [.lit (.bool true)], args := [d] }
  | _ => none }
def fnWholeNumberMatchesPointModelRow : OpenClaim := { program := "qxb6602448adoor", sum := "77c8f68ea5fc8a9da598a6b04baa3edf10a95301f42787ec07ad05c3c7e8ac93", func := "example.com/postbag/postbag/zzlaws_internal_exactjson_b1.FnWholeNumberMatchesPointModel", spec := "fnWholeNumberMatchesPointModel", inPlace := ["internal/bytealg.IndexByteString", "internal/bytealg.IndexByte", "internal/bytealg.Index", "internal/bytealg.IndexString", "internal/bytealg.MakeNoZero"], named := ["internal/bytealg.MaxLen", "unicode/utf8.first", "unicode/utf8.acceptRanges"], apart := false, laid := [("unicode/utf8.acceptRanges", laid_unicode_utf8_acceptRanges), ("unicode/utf8.first", laid_unicode_utf8_first)] }
def FnWholeNumberMatchesPointModelSaid : Prop := fnWholeNumberMatchesPointModelRow.holds Tryd.pinned (OpenSpec.ofChange fnWholeNumberMatchesPointModelSpec)

/-- ITS FALSE NEIGHBOUR: 'it returns false'. Refute it at one input. -/
def fnWholeNumberMatchesPointModelWrong : ChangeSpec := { name := "fnWholeNumberMatchesPointModel", fn := fun _ => fun
  | [d] => { results := [.lit (.bool false)], args := [d] }
  | _ => none }
def FnWholeNumberMatchesPointModelWrongFalsely : Prop := fnWholeNumberMatchesPointModelRow.holds Tryd.pinned (OpenSpec.ofChange fnWholeNumberMatchesPointModelWrong)

/-- 'zzlaws_internal_exactjson_b1.FnWholeNumberOutputCanonical': WHATEVER THE INPUT: true; the input reads as it did. -/
def fnWholeNumberOutputCanonicalSpec : ChangeSpec := { name := "fnWholeNumberOutputCanonical", fn := fun _ => fun
  | [d] => { results := [.lit (.bool true)], args := [d] }
  | _ => none }
def fnWholeNumberOutputCanonicalRow : OpenClaim := { program := "qxb6602448adoor", sum := "77c8f68ea5fc8a9da598a6b04baa3edf10a95301f42787ec07ad05c3c7e8ac93", func := "example.com/postbag/postbag/zzlaws_internal_exactjson_b1.FnWholeNumberOutputCanonical", spec := "fnWholeNumberOutputCanonical", inPlace := ["internal/bytealg.IndexByteString", "internal/bytealg.IndexByte", "internal/bytealg.Index", "internal/bytealg.IndexString", "internal/bytealg.MakeNoZero"], named := ["internal/bytealg.MaxLen", "unicode/utf8.first", "unicode/utf8.acceptRanges"], apart := false, laid := [("unicode/utf8.acceptRanges", laid_unicode_utf8_acceptRanges), ("unicode/utf8.first", laid_unicode_utf8_first)] }
def FnWholeNumberOutputCanonicalSaid : Prop := fnWholeNumberOutputCanonicalRow.holds Tryd.pinned (OpenSpec.ofChange fnWholeNumberOutputCanonicalSpec)

/-- ITS FALSE NEIGHBOUR: 'it returns false'. Refute it at one input. -/
def fnWholeNumberOutputCanonicalWrong : ChangeSpec := { name := "fnWholeNumberOutputCanonical", fn := fun _ => fun
  | [d] => { results := [.lit (.bool false)], args := [d] }
  | _ => none }
def FnWholeNumberOutputCanonicalWrongFalsely : Prop := fnWholeNumberOutputCanonicalRow.holds Tryd.pinned (OpenSpec.ofChange fnWholeNumberOutputCanonicalWrong)

/-- 'zzlaws_internal_exactjson_b1.FnWholeNumberSignSymmetric': WHATEVER THE INPUT: true; the input reads as it did. -/
def fnWholeNumberSignSymmetricSpec : ChangeSpec := { name := "fnWholeNumberSignSymmetric", fn := fun _ => fun
  | [d] => { results := [.lit (.bool true)], args := [d] }
  | _ => none }
def fnWholeNumberSignSymmetricRow : OpenClaim := { program := "qxb6602448adoor", sum := "77c8f68ea5fc8a9da598a6b04baa3edf10a95301f42787ec07ad05c3c7e8ac93", func := "example.com/postbag/postbag/zzlaws_internal_exactjson_b1.FnWholeNumberSignSymmetric", spec := "fnWholeNumberSignSymmetric", inPlace := ["internal/bytealg.IndexByteString", "internal/bytealg.IndexByte", "internal/bytealg.Index", "internal/bytealg.IndexString", "internal/bytealg.MakeNoZero"], named := ["internal/bytealg.MaxLen", "unicode/utf8.first", "unicode/utf8.acceptRanges"], apart := false, laid := [("unicode/utf8.acceptRanges", laid_unicode_utf8_acceptRanges), ("unicode/utf8.first", laid_unicode_utf8_first)] }
def FnWholeNumberSignSymmetricSaid : Prop := fnWholeNumberSignSymmetricRow.holds Tryd.pinned (OpenSpec.ofChange fnWholeNumberSignSymmetricSpec)

/-- ITS FALSE NEIGHBOUR: 'it returns false'. Refute it at one input. -/
def fnWholeNumberSignSymmetricWrong : ChangeSpec := { name := "fnWholeNumberSignSymmetric", fn := fun _ => fun
  | [d] => { results := [.lit (.bool false)], args := [d] }
  | _ => none }
def FnWholeNumberSignSymmetricWrongFalsely : Prop := fnWholeNumberSignSymmetricRow.holds Tryd.pinned (OpenSpec.ofChange fnWholeNumberSignSymmetricWrong)

end Rows
end Go.Proofs.Qxb6602448aDoor
