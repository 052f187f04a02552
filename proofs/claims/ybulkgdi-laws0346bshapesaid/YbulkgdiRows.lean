/-
  No cell of these rows narrows 'for every input' (looked for: loops, veiled, ifaces, maps, wideKeys, modest, calm, conditions, laid).
  DERIVED. THE GIVEN ROWS OF THIS SEAT. 2 by the template 'for every input the law returns true; each argument reads behind the call as it read before'; 0 by the template 'total and deterministic' (their statements: YbulkgdiTotals.lean).
  GIVEN WITH THE SEED: the statements are not yours to turn. If you find one false, say at which input.
  Laid BY PROGRAM, IN A SANDBOX (cutbox-rows.mjs): the forced cells as the released guide's own fill.sh prints them over the translation 6efe70b12f4e099f… (all of the seat's roots in one cut). By AI agents, Wed Nov 11 2026. No macro, syntax, notation, axiom, sorry.
-/
import Derived.Test.YbulkgdiChecked
import GoSem.Claim
import GoSem.ClaimJoined
import GoSem.ClaimMapViews
import Derived.JoinedTies
import Derived.KernelRfl
namespace Go.Proofs.Ybulkgdi
/- THE CELL 'sum', in the pinned program and in every row, IS THE sha256 OF THE DUMP (.gsa) THAT YbulkgdiProg.lean LOADS. Nothing in Lean hashes anything: it is a label: what it is worth is what the hold of that sum in a sandbox is worth. -/
noncomputable def Yba.pinned : Pinned := { name := "ybulkgdi", sum := "6efe70b12f4e099f3a6f8cc3ca23620b5cb21c2a8a02c7b538b19eec5b171855", checked := Yba.checked }
namespace Rows
def none {H : Type} : Left H := { results := [], args := [] }

/-- 'money.LawS0346BExact': WHATEVER THE INPUT: true; the input reads as it did. -/
def lawS0346BExactSpec : ChangeSpec := { name := "lawS0346BExact", fn := fun _ => fun
  | [d1, d2] => { results := [.lit (.bool true)], args := [d1, d2] }
  | _ => none }
def lawS0346BExactRow : OpenClaim := { program := "ybulkgdi", sum := "6efe70b12f4e099f3a6f8cc3ca23620b5cb21c2a8a02c7b538b19eec5b171855", func := "example.com/armslength/armslength/money.LawS0346BExact", spec := "lawS0346BExact", inPlace := ["math/bits.Add64"], named := ["math/bits.divideError", "math/bits.overflowError"], apart := false }
def LawS0346BExactSaid : Prop := lawS0346BExactRow.holds Yba.pinned (OpenSpec.ofChange lawS0346BExactSpec)

/-- ITS FALSE NEIGHBOUR: 'it returns false'. Refute it at one input. -/
def lawS0346BExactWrong : ChangeSpec := { name := "lawS0346BExact", fn := fun _ => fun
  | [d1, d2] => { results := [.lit (.bool false)], args := [d1, d2] }
  | _ => none }
def LawS0346BExactWrongFalsely : Prop := lawS0346BExactRow.holds Yba.pinned (OpenSpec.ofChange lawS0346BExactWrong)

/-- 'money.LawS0346BShape': WHATEVER THE INPUT: true; the input reads as it did. -/
def lawS0346BShapeSpec : ChangeSpec := { name := "lawS0346BShape", fn := fun _ => fun
  | [d1, d2] => { results := [.lit (.bool true)], args := [d1, d2] }
  | _ => none }
def lawS0346BShapeRow : OpenClaim := { program := "ybulkgdi", sum := "6efe70b12f4e099f3a6f8cc3ca23620b5cb21c2a8a02c7b538b19eec5b171855", func := "example.com/armslength/armslength/money.LawS0346BShape", spec := "lawS0346BShape", inPlace := ["math/bits.Add64"], named := ["math/bits.divideError", "math/bits.overflowError"], apart := false }
def LawS0346BShapeSaid : Prop := lawS0346BShapeRow.holds Yba.pinned (OpenSpec.ofChange lawS0346BShapeSpec)

/-- ITS FALSE NEIGHBOUR: 'it returns false'. Refute it at one input. -/
def lawS0346BShapeWrong : ChangeSpec := { name := "lawS0346BShape", fn := fun _ => fun
  | [d1, d2] => { results := [.lit (.bool false)], args := [d1, d2] }
  | _ => none }
def LawS0346BShapeWrongFalsely : Prop := lawS0346BShapeRow.holds Yba.pinned (OpenSpec.ofChange lawS0346BShapeWrong)

end Rows
end Go.Proofs.Ybulkgdi
