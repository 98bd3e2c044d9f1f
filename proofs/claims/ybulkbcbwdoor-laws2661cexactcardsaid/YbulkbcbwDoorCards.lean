/-
  DERIVED. GIVEN WITH THE SEED: THE CARDS: each row of YbulkbcbwDoorRows.lean that lists a variable, with what it lists TIED to the program's text (the seventh form; the later family's looks); each row that meets fmt, with fmt's text TOLD by the authors' own Lean function (tested against real Go, not proved from fmt's source: count such statements apart). THE CARD IS WHAT COUNTS. Prove the row's statement (the work); the ties are given (YbulkbcbwDoorTie.lean); close each card by the builder's one call (the guide's Derived/Test/ToyasCard.lean, 'card_holds'). Laid BY PROGRAM, IN A SANDBOX (cutbox-door.mjs). By AI agents, Wed Nov 11 2026. No macro, syntax, notation, axiom, sorry.
-/
import Derived.Test.YbulkbcbwDoorRows
import GoSem.ClaimSeven
namespace Go.Proofs.YbulkbcbwDoor
namespace Rows

/-- THE TIED CARD OF 'ogive.LawS2661CExact'. -/
def lawS2661CExactCard : Claim7 := { stood := { row := lawS2661CExactRow, standIns := [], harness := (true, "64b429467c127c98b1641bf0007746f216efbeafc47159ebcd4b3c2bdde76149"), looks := false }, kinds := [], alts := [], laidByText := true, laidKinds := [.called], laidTests := true, laidLooks := .later }
def LawS2661CExactCardSaid : Prop := Claim7.holds Ybad.pinned (.plain (OpenSpec.ofChange lawS2661CExactSpec)) lawS2661CExactCard

/-- THE TIED CARD OF 'ogive.LawS2661CTrailingZero'. -/
def lawS2661CTrailingZeroCard : Claim7 := { stood := { row := lawS2661CTrailingZeroRow, standIns := [], harness := (true, "64b429467c127c98b1641bf0007746f216efbeafc47159ebcd4b3c2bdde76149"), looks := false }, kinds := [], alts := [], laidByText := true, laidKinds := [.called], laidTests := true, laidLooks := .later }
def LawS2661CTrailingZeroCardSaid : Prop := Claim7.holds Ybad.pinned (.plain (OpenSpec.ofChange lawS2661CTrailingZeroSpec)) lawS2661CTrailingZeroCard
end Rows
end Go.Proofs.YbulkbcbwDoor
