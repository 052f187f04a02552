/-
  DERIVED. GIVEN WITH THE SEED: THE CARDS: each row of YbulkfzaDoorRows.lean that lists a variable, with what it lists TIED to the program's text (the seventh form; the later family's looks); each row that meets fmt, with fmt's text TOLD by the authors' own Lean function (tested against real Go, not proved from fmt's source: count such statements apart). THE CARD IS WHAT COUNTS. Prove the row's statement (the work); the ties are given (YbulkfzaDoorTie.lean); close each card by the builder's one call (the guide's Derived/Test/ToyasCard.lean, 'card_holds'). Laid BY PROGRAM, IN A SANDBOX (cutbox-door.mjs). By AI agents, Wed Nov 11 2026. No macro, syntax, notation, axiom, sorry.
-/
import Derived.Test.YbulkfzaDoorRows
import GoSem.ClaimSeven
namespace Go.Proofs.YbulkfzaDoor
namespace Rows

/-- THE TIED CARD OF 'pledgeweight.LawS0338AOrder'. -/
def lawS0338AOrderCard : Claim7 := { stood := { row := lawS0338AOrderRow, standIns := [], harness := (true, "1c273edc55c051c50b7f2b01b5da8c34400204f84cc0fcdf0b446cb0c791e0ee"), looks := false }, kinds := [], alts := [], laidByText := true, laidKinds := [.data], laidTests := true, laidLooks := .later }
def LawS0338AOrderCardSaid : Prop := Claim7.holds Ybad.pinned (.plain (OpenSpec.ofChange lawS0338AOrderSpec)) lawS0338AOrderCard

/-- THE TIED CARD OF 'pledgeweight.LawS0338ABlockOf'. -/
def lawS0338ABlockOfCard : Claim7 := { stood := { row := lawS0338ABlockOfRow, standIns := [], harness := (true, "1c273edc55c051c50b7f2b01b5da8c34400204f84cc0fcdf0b446cb0c791e0ee"), looks := false }, kinds := [], alts := [], laidByText := true, laidKinds := [.data], laidTests := true, laidLooks := .later }
def LawS0338ABlockOfCardSaid : Prop := Claim7.holds Ybad.pinned (.plain (OpenSpec.ofChange lawS0338ABlockOfSpec)) lawS0338ABlockOfCard
end Rows
end Go.Proofs.YbulkfzaDoor
