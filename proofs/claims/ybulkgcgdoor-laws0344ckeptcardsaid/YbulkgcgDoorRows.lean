/-
  NARROWER THAN 'FOR EVERY INPUT', by the rows' own cells (each row's printed sentence says how): LawS0344CFresh: laid · LawS0344CKept: laid.
  DERIVED. THE GIVEN ROWS OF THIS SEAT. 2 by the template 'for every input the law returns true; each argument reads behind the call as it read before'; 0 by the template 'total and deterministic' (their statements: YbulkgcgDoorTotals.lean).
  GIVEN WITH THE SEED: the statements are not yours to turn. If you find one false, say at which input.
  Laid BY PROGRAM, IN A SANDBOX (cutbox-rows.mjs): the forced cells as the released guide's own fill.sh prints them over the translation 2f161ebb0bd74442… (all of the seat's roots in one cut). By AI agents, Wed Nov 11 2026. No macro, syntax, notation, axiom, sorry.
-/
import Derived.Test.YbulkgcgDoorChecked
import GoSem.Claim
import GoSem.ClaimJoined
import GoSem.ClaimMapViews
import Derived.JoinedTies
import Derived.KernelRfl
namespace Go.Proofs.YbulkgcgDoor
/- THE CELL 'sum', in the pinned program and in every row, IS THE sha256 OF THE DUMP (.gsa) THAT YbulkgcgDoorProg.lean LOADS. Nothing in Lean hashes anything: it is a label: what it is worth is what the hold of that sum in a sandbox is worth. -/
noncomputable def Ybad.pinned : Pinned := { name := "ybulkgcgdoor", sum := "2f161ebb0bd74442bebe14544903414df4fcc8611ddd34df57c8629cc4f831df", checked := Ybad.checked }
namespace Rows
def none {H : Type} : Left H := { results := [], args := [] }

/- WHAT THE LISTED PACKAGE-LEVEL VARIABLES READ AS WHEN THE CALL BEGINS. Each datum BY PROGRAM (the guide's laid-datum.mjs) off the statement by which the dump's own 'gosem.cut.vars' lays the variable. In a bare row this is a premise. The card (YbulkgcgDoorCards.lean) ties it to the program's text. -/
def laid_errors_errorType {H : Type} : DataW H := .iface "internal/reflectlite.rtype" (.agg [.ptr (.lit (.string [101, 114, 114, 111, 114]))])

/-- 'jinja.LawS0344CFresh': WHATEVER THE INPUT: true; the input reads as it did. -/
def lawS0344CFreshSpec : ChangeSpec := { name := "lawS0344CFresh", fn := fun _ => fun
  | [d1, d2] => { results := [.lit (.bool true)], args := [d1, d2] }
  | _ => none }
def lawS0344CFreshRow : OpenClaim := { program := "ybulkgcgdoor", sum := "2f161ebb0bd74442bebe14544903414df4fcc8611ddd34df57c8629cc4f831df", func := "example.com/metalweave/metalweave/internal/chat/jinja.LawS0344CFresh", spec := "lawS0344CFresh", inPlace := ["internal/reflectlite.ValueOf", "(internal/reflectlite.Value).Type", "(internal/reflectlite.Value).IsNil", "internal/reflectlite.TypeOf", "(internal/reflectlite.Value).Elem", "(internal/reflectlite.Value).Set"], unfollowed := true, recurses := true, named := ["errors.errorType"], apart := false, laid := [("errors.errorType", laid_errors_errorType)] }
def LawS0344CFreshSaid : Prop := lawS0344CFreshRow.holds Ybad.pinned (OpenSpec.ofChange lawS0344CFreshSpec)

/-- ITS FALSE NEIGHBOUR: 'it returns false'. Refute it at one input. -/
def lawS0344CFreshWrong : ChangeSpec := { name := "lawS0344CFresh", fn := fun _ => fun
  | [d1, d2] => { results := [.lit (.bool false)], args := [d1, d2] }
  | _ => none }
def LawS0344CFreshWrongFalsely : Prop := lawS0344CFreshRow.holds Ybad.pinned (OpenSpec.ofChange lawS0344CFreshWrong)

/-- 'jinja.LawS0344CKept': WHATEVER THE INPUT: true; the input reads as it did. -/
def lawS0344CKeptSpec : ChangeSpec := { name := "lawS0344CKept", fn := fun _ => fun
  | [d1, d2, d3, d4, d5] => { results := [.lit (.bool true)], args := [d1, d2, d3, d4, d5] }
  | _ => none }
def lawS0344CKeptRow : OpenClaim := { program := "ybulkgcgdoor", sum := "2f161ebb0bd74442bebe14544903414df4fcc8611ddd34df57c8629cc4f831df", func := "example.com/metalweave/metalweave/internal/chat/jinja.LawS0344CKept", spec := "lawS0344CKept", inPlace := ["internal/reflectlite.ValueOf", "(internal/reflectlite.Value).Type", "(internal/reflectlite.Value).IsNil", "internal/reflectlite.TypeOf", "(internal/reflectlite.Value).Elem", "(internal/reflectlite.Value).Set"], unfollowed := true, recurses := true, named := ["errors.errorType"], apart := false, laid := [("errors.errorType", laid_errors_errorType)] }
def LawS0344CKeptSaid : Prop := lawS0344CKeptRow.holds Ybad.pinned (OpenSpec.ofChange lawS0344CKeptSpec)

/-- ITS FALSE NEIGHBOUR: 'it returns false'. Refute it at one input. -/
def lawS0344CKeptWrong : ChangeSpec := { name := "lawS0344CKept", fn := fun _ => fun
  | [d1, d2, d3, d4, d5] => { results := [.lit (.bool false)], args := [d1, d2, d3, d4, d5] }
  | _ => none }
def LawS0344CKeptWrongFalsely : Prop := lawS0344CKeptRow.holds Ybad.pinned (OpenSpec.ofChange lawS0344CKeptWrong)

end Rows
end Go.Proofs.YbulkgcgDoor
