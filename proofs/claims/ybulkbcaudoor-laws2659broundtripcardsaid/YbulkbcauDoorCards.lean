/-
  DERIVED. GIVEN WITH THE SEED: THE CARDS: each row of YbulkbcauDoorRows.lean that lists a variable, with what it lists TIED to the program's text (the seventh form; the later family's looks); each row that meets fmt, with fmt's text TOLD by the authors' own Lean function (tested against real Go, not proved from fmt's source: count such statements apart). THE CARD IS WHAT COUNTS. Prove the row's statement (the work); the ties are given (YbulkbcauDoorTie.lean); close each card by the builder's one call (the guide's Derived/Test/ToyasCard.lean, 'card_holds'). Laid BY PROGRAM, IN A SANDBOX (cutbox-door.mjs). By AI agents, Wed Nov 11 2026. No macro, syntax, notation, axiom, sorry.
-/
import Derived.Test.YbulkbcauDoorRows
import GoSem.ClaimSeven
namespace Go.Proofs.YbulkbcauDoor
namespace Rows

/-- THE TIED CARD OF 'cluster.LawS2659BModel'. -/
def lawS2659BModelCard : Claim7 := { stood := { row := lawS2659BModelRow, standIns := [], harness := (true, "b74d0c1fba311772de3486ccbc1f51d4b08ae4ce420638ff5667bd58087f2ffb"), looks := true }, kinds := [], alts := [], laidByText := true, laidKinds := [.data, .data, .data, .sentinel, .sentinel], laidTests := true, laidLooks := .later }
def LawS2659BModelCardSaid : Prop := Claim7.holds Ybad.pinned (.plain (OpenSpec.ofChange lawS2659BModelSpec)) lawS2659BModelCard

/-- THE TIED CARD OF 'cluster.LawS2659BRoundTrip'. -/
def lawS2659BRoundTripCard : Claim7 := { stood := { row := lawS2659BRoundTripRow, standIns := [], harness := (true, "b74d0c1fba311772de3486ccbc1f51d4b08ae4ce420638ff5667bd58087f2ffb"), looks := true }, kinds := [], alts := [], laidByText := true, laidKinds := [.data, .data, .data, .sentinel, .sentinel], laidTests := true, laidLooks := .later }
def LawS2659BRoundTripCardSaid : Prop := Claim7.holds Ybad.pinned (.plain (OpenSpec.ofChange lawS2659BRoundTripSpec)) lawS2659BRoundTripCard
end Rows
end Go.Proofs.YbulkbcauDoor
