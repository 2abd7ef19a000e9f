/-
  DERIVED. GIVEN WITH THE SEED: THE CARDS: each row of YbulkdebcDoorRows.lean that lists a variable, with what it lists TIED to the program's text (the seventh form; the later family's looks); each row that meets fmt, with fmt's text TOLD by the authors' own Lean function (tested against real Go, not proved from fmt's source: count such statements apart). THE CARD IS WHAT COUNTS. Prove the row's statement (the work); the ties are given (YbulkdebcDoorTie.lean); close each card by the builder's one call (the guide's Derived/Test/ToyasCard.lean, 'card_holds'). Laid BY PROGRAM, IN A SANDBOX (cutbox-door.mjs). By AI agents, Wed Nov 11 2026. No macro, syntax, notation, axiom, sorry.
-/
import Derived.Test.YbulkdebcDoorRows
import GoSem.ClaimSeven
namespace Go.Proofs.YbulkdebcDoor
namespace Rows

/-- THE TIED CARD OF 'pilotfish.LawS5267AStore'. -/
def lawS5267AStoreCard : Claim7 := { stood := { row := lawS5267AStoreRow, standIns := [], harness := (true, "7fd96a44132e42c7fe79bad7a3e91e7032dbde641cfc71ce16e41e8906aded7a"), looks := false }, kinds := [], alts := [], laidByText := true, laidKinds := [.sentinel], laidTests := true, laidLooks := .later }
def LawS5267AStoreCardSaid : Prop := Claim7.holds Ybad.pinned (.plain (OpenSpec.ofChange lawS5267AStoreSpec)) lawS5267AStoreCard
end Rows
end Go.Proofs.YbulkdebcDoor
