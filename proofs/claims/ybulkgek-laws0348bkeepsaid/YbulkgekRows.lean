/-
  No cell of these rows narrows 'for every input' (looked for: loops, veiled, ifaces, maps, wideKeys, modest, calm, conditions, laid).
  DERIVED. THE GIVEN ROWS OF THIS SEAT. 2 by the template 'for every input the law returns true; each argument reads behind the call as it read before'; 0 by the template 'total and deterministic' (their statements: YbulkgekTotals.lean).
  GIVEN WITH THE SEED: the statements are not yours to turn. If you find one false, say at which input.
  Laid BY PROGRAM, IN A SANDBOX (cutbox-rows.mjs): the forced cells as the released guide's own fill.sh prints them over the translation d9d823b806fcf59b… (all of the seat's roots in one cut). By AI agents, Wed Nov 11 2026. No macro, syntax, notation, axiom, sorry.
-/
import Derived.Test.YbulkgekChecked
import GoSem.Claim
import GoSem.ClaimJoined
import GoSem.ClaimMapViews
import Derived.JoinedTies
import Derived.KernelRfl
namespace Go.Proofs.Ybulkgek
/- THE CELL 'sum', in the pinned program and in every row, IS THE sha256 OF THE DUMP (.gsa) THAT YbulkgekProg.lean LOADS. Nothing in Lean hashes anything: it is a label: what it is worth is what the hold of that sum in a sandbox is worth. -/
noncomputable def Yba.pinned : Pinned := { name := "ybulkgek", sum := "d9d823b806fcf59bfedd1c530b5e54f3ffed6e44e2f89f62b66798d655fc83a1", checked := Yba.checked }
namespace Rows
def none {H : Type} : Left H := { results := [], args := [] }

/-- 'sim.LawS0348BOne': WHATEVER THE INPUT: true; the input reads as it did. -/
def lawS0348BOneSpec : ChangeSpec := { name := "lawS0348BOne", fn := fun _ => fun
  | [d1, d2, d3, d4, d5, d6] => { results := [.lit (.bool true)], args := [d1, d2, d3, d4, d5, d6] }
  | _ => none }
def lawS0348BOneRow : OpenClaim := { program := "ybulkgek", sum := "d9d823b806fcf59bfedd1c530b5e54f3ffed6e44e2f89f62b66798d655fc83a1", func := "example.com/lockwright/lockwright/internal/sim.LawS0348BOne", spec := "lawS0348BOne", unfollowed := true, recurses := true, apart := false }
def LawS0348BOneSaid : Prop := lawS0348BOneRow.holds Yba.pinned (OpenSpec.ofChange lawS0348BOneSpec)

/-- ITS FALSE NEIGHBOUR: 'it returns false'. Refute it at one input. -/
def lawS0348BOneWrong : ChangeSpec := { name := "lawS0348BOne", fn := fun _ => fun
  | [d1, d2, d3, d4, d5, d6] => { results := [.lit (.bool false)], args := [d1, d2, d3, d4, d5, d6] }
  | _ => none }
def LawS0348BOneWrongFalsely : Prop := lawS0348BOneRow.holds Yba.pinned (OpenSpec.ofChange lawS0348BOneWrong)

/-- 'sim.LawS0348BKeep': WHATEVER THE INPUT: true; the input reads as it did. -/
def lawS0348BKeepSpec : ChangeSpec := { name := "lawS0348BKeep", fn := fun _ => fun
  | [d1, d2, d3, d4, d5, d6, d7] => { results := [.lit (.bool true)], args := [d1, d2, d3, d4, d5, d6, d7] }
  | _ => none }
def lawS0348BKeepRow : OpenClaim := { program := "ybulkgek", sum := "d9d823b806fcf59bfedd1c530b5e54f3ffed6e44e2f89f62b66798d655fc83a1", func := "example.com/lockwright/lockwright/internal/sim.LawS0348BKeep", spec := "lawS0348BKeep", unfollowed := true, recurses := true, apart := false }
def LawS0348BKeepSaid : Prop := lawS0348BKeepRow.holds Yba.pinned (OpenSpec.ofChange lawS0348BKeepSpec)

/-- ITS FALSE NEIGHBOUR: 'it returns false'. Refute it at one input. -/
def lawS0348BKeepWrong : ChangeSpec := { name := "lawS0348BKeep", fn := fun _ => fun
  | [d1, d2, d3, d4, d5, d6, d7] => { results := [.lit (.bool false)], args := [d1, d2, d3, d4, d5, d6, d7] }
  | _ => none }
def LawS0348BKeepWrongFalsely : Prop := lawS0348BKeepRow.holds Yba.pinned (OpenSpec.ofChange lawS0348BKeepWrong)

end Rows
end Go.Proofs.Ybulkgek
