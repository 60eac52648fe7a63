/-
  NARROWER THAN 'FOR EVERY INPUT', by the rows' own cells (each row's printed sentence says how): FnParseKeepsEveryDeclarationLineInOrder: laid · FnParseSplitsOverANewline: laid · FnParseOfItsJoinedOutputIsItself: laid.
  DERIVED. THE GIVEN ROWS OF THIS SEAT. 3 by the template 'for every input the law returns true; each argument reads behind the call as it read before'; 0 by the template 'total and deterministic' (their statements: Qxb6602240aDoorTotals.lean).
  GIVEN WITH THE SEED: the statements are not yours to turn. If you find one false, say at which input.
  Laid BY PROGRAM, IN A SANDBOX (cutbox-rows.mjs): the forced cells as the released guide's own fill.sh prints them over the translation 630426665f3ccc09… (all of the seat's roots in one cut). By AI agents, Wed Nov 11 2026. No macro, syntax, notation, axiom, sorry.
-/
import Derived.Test.Qxb6602240aDoorChecked
import GoSem.PinnedTables
import GoSem.Claim
import GoSem.ClaimJoined
import GoSem.ClaimMapViews
import Derived.JoinedTies
import Derived.KernelRfl
namespace Go.Proofs.Qxb6602240aDoor
/- THE CELL 'sum', in the pinned program and in every row, IS THE sha256 OF THE DUMP (.gsa) THAT Qxb6602240aDoorProg.lean LOADS. Nothing in Lean hashes anything: it is a label: what it is worth is what the hold of that sum in a sandbox is worth. -/
noncomputable def Tryd.pinned : Pinned := { name := "qxb6602240adoor", sum := "630426665f3ccc095bc1855d3518b67dba9cb78692b3ab1be67e7c580a0a8151", checked := Tryd.checked }
namespace Rows
def none {H : Type} : Left H := { results := [], args := [] }

/- WHAT THE LISTED PACKAGE-LEVEL VARIABLES READ AS WHEN THE CALL BEGINS. Each datum BY PROGRAM (the guide's laid-datum.mjs) off the statement by which the dump's own 'gosem.cut.vars' lays the variable. In a bare row this is a premise. The card (Qxb6602240aDoorCards.lean) ties it to the program's text. -/
def laid_unicode_utf8_acceptRanges {H : Type} : DataW H := .agg [.agg [.lit (.int .u8 128), .lit (.int .u8 191)], .agg [.lit (.int .u8 160), .lit (.int .u8 191)], .agg [.lit (.int .u8 128), .lit (.int .u8 159)], .agg [.lit (.int .u8 144), .lit (.int .u8 191)], .agg [.lit (.int .u8 128), .lit (.int .u8 143)], .agg [.lit (.int .u8 0), .lit (.int .u8 0)], .agg [.lit (.int .u8 0), .lit (.int .u8 0)], .agg [.lit (.int .u8 0), .lit (.int .u8 0)], .agg [.lit (.int .u8 0), .lit (.int .u8 0)], .agg [.lit (.int .u8 0), .lit (.int .u8 0)], .agg [.lit (.int .u8 0), .lit (.int .u8 0)], .agg [.lit (.int .u8 0), .lit (.int .u8 0)], .agg [.lit (.int .u8 0), .lit (.int .u8 0)], .agg [.lit (.int .u8 0), .lit (.int .u8 0)], .agg [.lit (.int .u8 0), .lit (.int .u8 0)], .agg [.lit (.int .u8 0), .lit (.int .u8 0)]]
/-- One of Go's own tables, pinned by name: the form's constant. -/
def laid_unicode_utf8_first : DataW Unit := Go.Pinned.utf8First

/-- 'zzlaws_internal_apitest_b1.FnParseKeepsEveryDeclarationLineInOrder': WHATEVER THE INPUT: true; the input reads as it did. -/
def fnParseKeepsEveryDeclarationLineInOrderSpec : ChangeSpec := { name := "fnParseKeepsEveryDeclarationLineInOrder", fn := fun _ => fun
  | [d] => { results := [.lit (.bool true)], args := [d] }
  | _ => none }
def fnParseKeepsEveryDeclarationLineInOrderRow : OpenClaim := { program := "qxb6602240adoor", sum := "630426665f3ccc095bc1855d3518b67dba9cb78692b3ab1be67e7c580a0a8151", func := "example.com/moorage/moorage/zzlaws_internal_apitest_b1.FnParseKeepsEveryDeclarationLineInOrder", spec := "fnParseKeepsEveryDeclarationLineInOrder", inPlace := ["internal/bytealg.CountString", "internal/bytealg.IndexByteString", "internal/bytealg.IndexString"], named := ["unicode/utf8.first", "unicode/utf8.acceptRanges", "internal/bytealg.MaxLen"], apart := false, laid := [("unicode/utf8.acceptRanges", laid_unicode_utf8_acceptRanges), ("unicode/utf8.first", laid_unicode_utf8_first)] }
def FnParseKeepsEveryDeclarationLineInOrderSaid : Prop := fnParseKeepsEveryDeclarationLineInOrderRow.holds Tryd.pinned (OpenSpec.ofChange fnParseKeepsEveryDeclarationLineInOrderSpec)

/-- ITS FALSE NEIGHBOUR: 'it returns false'. Refute it at one input. -/
def fnParseKeepsEveryDeclarationLineInOrderWrong : ChangeSpec := { name := "fnParseKeepsEveryDeclarationLineInOrder", fn := fun _ => fun
  | [d] => { results := [.lit (.bool false)], args := [d] }
  | _ => none }
def FnParseKeepsEveryDeclarationLineInOrderWrongFalsely : Prop := fnParseKeepsEveryDeclarationLineInOrderRow.holds Tryd.pinned (OpenSpec.ofChange fnParseKeepsEveryDeclarationLineInOrderWrong)

/-- 'zzlaws_internal_apitest_b1.FnParseSplitsOverANewline': WHATEVER THE INPUT: true; the input reads as it did. -/
def fnParseSplitsOverANewlineSpec : ChangeSpec := { name := "fnParseSplitsOverANewline", fn := fun _ => fun
  | [d1, d2] => { results := [.lit (.bool true)], args := [d1, d2] }
  | _ => none }
def fnParseSplitsOverANewlineRow : OpenClaim := { program := "qxb6602240adoor", sum := "630426665f3ccc095bc1855d3518b67dba9cb78692b3ab1be67e7c580a0a8151", func := "example.com/moorage/moorage/zzlaws_internal_apitest_b1.FnParseSplitsOverANewline", spec := "fnParseSplitsOverANewline", inPlace := ["internal/bytealg.CountString", "internal/bytealg.IndexByteString", "internal/bytealg.IndexString"], named := ["unicode/utf8.first", "unicode/utf8.acceptRanges", "internal/bytealg.MaxLen"], apart := false, laid := [("unicode/utf8.acceptRanges", laid_unicode_utf8_acceptRanges), ("unicode/utf8.first", laid_unicode_utf8_first)] }
def FnParseSplitsOverANewlineSaid : Prop := fnParseSplitsOverANewlineRow.holds Tryd.pinned (OpenSpec.ofChange fnParseSplitsOverANewlineSpec)

/-- ITS FALSE NEIGHBOUR: 'it returns false'. Refute it at one input. -/
def fnParseSplitsOverANewlineWrong : ChangeSpec := { name := "fnParseSplitsOverANewline", fn := fun _ => fun
  | [d1, d2] => { results := [.lit (.bool false)], args := [d1, d2] }
  | _ => none }
def FnParseSplitsOverANewlineWrongFalsely : Prop := fnParseSplitsOverANewlineRow.holds Tryd.pinned (OpenSpec.ofChange fnParseSplitsOverANewlineWrong)

/-- 'zzlaws_internal_apitest_b1.FnParseOfItsJoinedOutputIsItself': WHATEVER THE INPUT: true; the input reads as it did. -/
def fnParseOfItsJoinedOutputIsItselfSpec : ChangeSpec := { name := "fnParseOfItsJoinedOutputIsItself", fn := fun _ => fun
  | [d] => { results := [.lit (.bool true)], args := [d] }
  | _ => none }
def fnParseOfItsJoinedOutputIsItselfRow : OpenClaim := { program := "qxb6602240adoor", sum := "630426665f3ccc095bc1855d3518b67dba9cb78692b3ab1be67e7c580a0a8151", func := "example.com/moorage/moorage/zzlaws_internal_apitest_b1.FnParseOfItsJoinedOutputIsItself", spec := "fnParseOfItsJoinedOutputIsItself", inPlace := ["internal/bytealg.CountString", "internal/bytealg.IndexByteString", "internal/bytealg.IndexString"], named := ["unicode/utf8.first", "unicode/utf8.acceptRanges", "internal/bytealg.MaxLen"], apart := false, laid := [("unicode/utf8.acceptRanges", laid_unicode_utf8_acceptRanges), ("unicode/utf8.first", laid_unicode_utf8_first)] }
def FnParseOfItsJoinedOutputIsItselfSaid : Prop := fnParseOfItsJoinedOutputIsItselfRow.holds Tryd.pinned (OpenSpec.ofChange fnParseOfItsJoinedOutputIsItselfSpec)

/-- ITS FALSE NEIGHBOUR: 'it returns false'. Refute it at one input. -/
def fnParseOfItsJoinedOutputIsItselfWrong : ChangeSpec := { name := "fnParseOfItsJoinedOutputIsItself", fn := fun _ => fun
  | [d] => { results := [.lit (.bool false)], args := [d] }
  | _ => none }
def FnParseOfItsJoinedOutputIsItselfWrongFalsely : Prop := fnParseOfItsJoinedOutputIsItselfRow.holds Tryd.pinned (OpenSpec.ofChange fnParseOfItsJoinedOutputIsItselfWrong)

end Rows
end Go.Proofs.Qxb6602240aDoor
