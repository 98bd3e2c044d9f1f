/-
  DERIVED. GIVEN WITH THE SEED: THE CARDS: each row of YbulkbcbiFmtRows.lean that lists a variable, with what it lists TIED to the program's text (the seventh form; the later family's looks); each row that meets fmt, with fmt's text TOLD by the authors' own Lean function (tested against real Go, not proved from fmt's source: count such statements apart). THE CARD IS WHAT COUNTS. Prove the row's statement (the work); the ties are given (YbulkbcbiFmtTie.lean); close each card by the builder's one call (the guide's Derived/Test/ToyasCard.lean, 'card_holds'). Laid BY PROGRAM, IN A SANDBOX (cutbox-door.mjs). By AI agents, Wed Nov 11 2026. No macro, syntax, notation, axiom, sorry.
-/
import Derived.Test.YbulkbcbiFmtRows
import GoSem.ClaimSeven
namespace Go.Proofs.YbulkbcbiFmt
namespace Rows

/-- THE TOLD AND TIED CARD OF 'journal.LawS2660ANilExactly'. -/
def lawS2660ANilExactlyCard : Claim7 := { stood := { row := lawS2660ANilExactlyRow, standIns := [], harness := (true, "770f07a2eeac739d2f84a59188142df10346a57ea7ecb268d6ece70f6d577574"), looks := false }, told := true, laidByText := true, laidKinds := [.widerDeep], laidTests := true, laidLooks := .later, goes := false }
def LawS2660ANilExactlyToldSaid : Prop := Claim7.holds Ybaf.pinned (.plain (OpenSpec.ofChange lawS2660ANilExactlySpec)) lawS2660ANilExactlyCard
/-- ITS FALSE NEIGHBOUR. Refute it at one input. -/
def LawS2660ANilExactlyToldWrongFalsely : Prop := Claim7.holds Ybaf.pinned (.plain (OpenSpec.ofChange lawS2660ANilExactlyWrong)) lawS2660ANilExactlyCard

/-- THE TOLD AND TIED CARD OF 'journal.LawS2660AOrderFree'. -/
def lawS2660AOrderFreeCard : Claim7 := { stood := { row := lawS2660AOrderFreeRow, standIns := [], harness := (true, "770f07a2eeac739d2f84a59188142df10346a57ea7ecb268d6ece70f6d577574"), looks := false }, told := true, laidByText := true, laidKinds := [.widerDeep], laidTests := true, laidLooks := .later, goes := false }
def LawS2660AOrderFreeToldSaid : Prop := Claim7.holds Ybaf.pinned (.plain (OpenSpec.ofChange lawS2660AOrderFreeSpec)) lawS2660AOrderFreeCard
/-- ITS FALSE NEIGHBOUR. Refute it at one input. -/
def LawS2660AOrderFreeToldWrongFalsely : Prop := Claim7.holds Ybaf.pinned (.plain (OpenSpec.ofChange lawS2660AOrderFreeWrong)) lawS2660AOrderFreeCard
end Rows
end Go.Proofs.YbulkbcbiFmt
