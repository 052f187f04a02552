/-
  DERIVED. GIVEN WITH THE SEED: THE CARDS: each row of YbulkgcgDoorRows.lean that lists a variable, with what it lists TIED to the program's text (the seventh form; the later family's looks); each row that meets fmt, with fmt's text TOLD by the authors' own Lean function (tested against real Go, not proved from fmt's source: count such statements apart). THE CARD IS WHAT COUNTS. Prove the row's statement (the work); the ties are given (YbulkgcgDoorTie.lean); close each card by the builder's one call (the guide's Derived/Test/ToyasCard.lean, 'card_holds'). Laid BY PROGRAM, IN A SANDBOX (cutbox-door.mjs). By AI agents, Wed Nov 11 2026. No macro, syntax, notation, axiom, sorry.
-/
import Derived.Test.YbulkgcgDoorRows
import GoSem.ClaimSeven
namespace Go.Proofs.YbulkgcgDoor
namespace Rows

/-- THE TIED CARD OF 'jinja.LawS0344CFresh'. -/
def lawS0344CFreshCard : Claim7 := { stood := { row := lawS0344CFreshRow, standIns := [], harness := (true, "79f824e53e519254e7facde884783321d1440e66543383acafcc50317c386721"), looks := true }, kinds := [], alts := [], laidByText := true, laidKinds := [.handle], laidTests := true, laidLooks := .later }
def LawS0344CFreshCardSaid : Prop := Claim7.holds Ybad.pinned (.plain (OpenSpec.ofChange lawS0344CFreshSpec)) lawS0344CFreshCard

/-- THE TIED CARD OF 'jinja.LawS0344CKept'. -/
def lawS0344CKeptCard : Claim7 := { stood := { row := lawS0344CKeptRow, standIns := [], harness := (true, "79f824e53e519254e7facde884783321d1440e66543383acafcc50317c386721"), looks := true }, kinds := [], alts := [], laidByText := true, laidKinds := [.handle], laidTests := true, laidLooks := .later }
def LawS0344CKeptCardSaid : Prop := Claim7.holds Ybad.pinned (.plain (OpenSpec.ofChange lawS0344CKeptSpec)) lawS0344CKeptCard
end Rows
end Go.Proofs.YbulkgcgDoor
