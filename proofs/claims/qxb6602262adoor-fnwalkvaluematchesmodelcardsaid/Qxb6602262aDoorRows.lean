/-
  NARROWER THAN 'FOR EVERY INPUT', by the rows' own cells (each row's printed sentence says how): FnWalkValueMatchesModel: laid · FnWalkValueBoundsAndPrefix: laid.
  DERIVED. THE GIVEN ROWS OF THIS SEAT. 2 by the template 'for every input the law returns true; each argument reads behind the call as it read before'; 0 by the template 'total and deterministic' (their statements: Qxb6602262aDoorTotals.lean).
  GIVEN WITH THE SEED: the statements are not yours to turn. If you find one false, say at which input.
  Laid BY PROGRAM, IN A SANDBOX (cutbox-rows.mjs): the forced cells as the released guide's own fill.sh prints them over the translation c6ff6c0fc76b0777… (all of the seat's roots in one cut). By AI agents, Wed Nov 11 2026. No macro, syntax, notation, axiom, sorry.
-/
import Derived.Test.Qxb6602262aDoorChecked
import GoSem.PinnedTables
import GoSem.Claim
import GoSem.ClaimJoined
import GoSem.ClaimMapViews
import Derived.JoinedTies
import Derived.KernelRfl
namespace Go.Proofs.Qxb6602262aDoor
/- THE CELL 'sum', in the pinned program and in every row, IS THE sha256 OF THE DUMP (.gsa) THAT Qxb6602262aDoorProg.lean LOADS. Nothing in Lean hashes anything: it is a label: what it is worth is what the hold of that sum in a sandbox is worth. -/
noncomputable def Tryd.pinned : Pinned := { name := "qxb6602262adoor", sum := "c6ff6c0fc76b07777479f12396c55249a67fd03bb0233af5080cf05d374f34c2", checked := Tryd.checked }
namespace Rows
def none {H : Type} : Left H := { results := [], args := [] }

/- WHAT THE LISTED PACKAGE-LEVEL VARIABLES READ AS WHEN THE CALL BEGINS. Each datum BY PROGRAM (the guide's laid-datum.mjs) off the statement by which the dump's own 'gosem.cut.vars' lays the variable. In a bare row this is a premise. The card (Qxb6602262aDoorCards.lean) ties it to the program's text. -/
def laid_unicode_utf8_acceptRanges {H : Type} : DataW H := .agg [.agg [.lit (.int .u8 128), .lit (.int .u8 191)], .agg [.lit (.int .u8 160), .lit (.int .u8 191)], .agg [.lit (.int .u8 128), .lit (.int .u8 159)], .agg [.lit (.int .u8 144), .lit (.int .u8 191)], .agg [.lit (.int .u8 128), .lit (.int .u8 143)], .agg [.lit (.int .u8 0), .lit (.int .u8 0)], .agg [.lit (.int .u8 0), .lit (.int .u8 0)], .agg [.lit (.int .u8 0), .lit (.int .u8 0)], .agg [.lit (.int .u8 0), .lit (.int .u8 0)], .agg [.lit (.int .u8 0), .lit (.int .u8 0)], .agg [.lit (.int .u8 0), .lit (.int .u8 0)], .agg [.lit (.int .u8 0), .lit (.int .u8 0)], .agg [.lit (.int .u8 0), .lit (.int .u8 0)], .agg [.lit (.int .u8 0), .lit (.int .u8 0)], .agg [.lit (.int .u8 0), .lit (.int .u8 0)], .agg [.lit (.int .u8 0), .lit (.int .u8 0)]]
/-- One of Go's own tables, pinned by name: the form's constant. -/
def laid_unicode_utf8_first : DataW Unit := Go.Pinned.utf8First

/-- 'zzlaws_task_b1.FnWalkValueMatchesModel': WHATEVER THE INPUT: true; the input reads as it did. -/
def fnWalkValueMatchesModelSpec : ChangeSpec := { name := "fnWalkValueMatchesModel", fn := fun _ => fun
  | [d1, d2] => { results := [.lit (.bool true)], args := [d1, d2] }
  | _ => none }
def fnWalkValueMatchesModelRow : OpenClaim := { program := "qxb6602262adoor", sum := "c6ff6c0fc76b07777479f12396c55249a67fd03bb0233af5080cf05d374f34c2", func := "example.com/ready-to-result/ready-to-result/zzlaws_task_b1.FnWalkValueMatchesModel", spec := "fnWalkValueMatchesModel", inPlace := ["internal/bytealg.IndexByte", "internal/bytealg.IndexByteString", "internal/bytealg.Index", "internal/bytealg.IndexString"], recurses := true, named := ["internal/bytealg.MaxLen", "unicode/utf8.first", "unicode/utf8.acceptRanges"], apart := false, laid := [("unicode/utf8.acceptRanges", laid_unicode_utf8_acceptRanges), ("unicode/utf8.first", laid_unicode_utf8_first)] }
def FnWalkValueMatchesModelSaid : Prop := fnWalkValueMatchesModelRow.holds Tryd.pinned (OpenSpec.ofChange fnWalkValueMatchesModelSpec)

/-- ITS FALSE NEIGHBOUR: 'it returns false'. Refute it at one input. -/
def fnWalkValueMatchesModelWrong : ChangeSpec := { name := "fnWalkValueMatchesModel", fn := fun _ => fun
  | [d1, d2] => { results := [.lit (.bool false)], args := [d1, d2] }
  | _ => none }
def FnWalkValueMatchesModelWrongFalsely : Prop := fnWalkValueMatchesModelRow.holds Tryd.pinned (OpenSpec.ofChange fnWalkValueMatchesModelWrong)

/-- 'zzlaws_task_b1.FnWalkValueBoundsAndPrefix': WHATEVER THE INPUT: true; the input reads as it did. -/
def fnWalkValueBoundsAndPrefixSpec : ChangeSpec := { name := "fnWalkValueBoundsAndPrefix", fn := fun _ => fun
  | [d1, d2] => { results := [.lit (.bool true)], args := [d1, d2] }
  | _ => none }
def fnWalkValueBoundsAndPrefixRow : OpenClaim := { program := "qxb6602262adoor", sum := "c6ff6c0fc76b07777479f12396c55249a67fd03bb0233af5080cf05d374f34c2", func := "example.com/ready-to-result/ready-to-result/zzlaws_task_b1.FnWalkValueBoundsAndPrefix", spec := "fnWalkValueBoundsAndPrefix", inPlace := ["internal/bytealg.IndexByte", "internal/bytealg.IndexByteString", "internal/bytealg.Index", "internal/bytealg.IndexString"], named := ["internal/bytealg.MaxLen", "unicode/utf8.first", "unicode/utf8.acceptRanges"], apart := false, laid := [("unicode/utf8.acceptRanges", laid_unicode_utf8_acceptRanges), ("unicode/utf8.first", laid_unicode_utf8_first)] }
def FnWalkValueBoundsAndPrefixSaid : Prop := fnWalkValueBoundsAndPrefixRow.holds Tryd.pinned (OpenSpec.ofChange fnWalkValueBoundsAndPrefixSpec)

/-- ITS FALSE NEIGHBOUR: 'it returns false'. Refute it at one input. -/
def fnWalkValueBoundsAndPrefixWrong : ChangeSpec := { name := "fnWalkValueBoundsAndPrefix", fn := fun _ => fun
  | [d1, d2] => { results := [.lit (.bool false)], args := [d1, d2] }
  | _ => none }
def FnWalkValueBoundsAndPrefixWrongFalsely : Prop := fnWalkValueBoundsAndPrefixRow.holds Tryd.pinned (OpenSpec.ofChange fnWalkValueBoundsAndPrefixWrong)

end Rows
end Go.Proofs.Qxb6602262aDoor
