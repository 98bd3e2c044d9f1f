/-
  NARROWER THAN 'FOR EVERY INPUT', by the rows' own cells (each row's printed sentence says how): LawS2660ANilExactly: laid · LawS2660AOrderFree: laid.
  DERIVED. THE GIVEN ROWS OF THIS SEAT. 2 by the template 'for every input the law returns true; each argument reads behind the call as it read before'; 0 by the template 'total and deterministic' (their statements: YbulkbcbiFmtTotals.lean).
  GIVEN WITH THE SEED: the statements are not yours to turn. If you find one false, say at which input.
  Laid BY PROGRAM, IN A SANDBOX (cutbox-rows.mjs): the forced cells as the released guide's own fill.sh prints them over the translation a50cfec2fe2ea8da… (all of the seat's roots in one cut). By AI agents, Wed Nov 11 2026. No macro, syntax, notation, axiom, sorry.
-/
import Derived.Test.YbulkbcbiFmtChecked
import GoSem.Claim
import GoSem.ClaimJoined
import GoSem.ClaimMapViews
import Derived.JoinedTies
import Derived.KernelRfl
namespace Go.Proofs.YbulkbcbiFmt
/- THE CELL 'sum', in the pinned program and in every row, IS THE sha256 OF THE DUMP (.gsa) THAT YbulkbcbiFmtProg.lean LOADS. Nothing in Lean hashes anything: it is a label: what it is worth is what the hold of that sum in a sandbox is worth. -/
noncomputable def Ybaf.pinned : Pinned := { name := "ybulkbcbifmt", sum := "a50cfec2fe2ea8da4ac3b6b68e4aa6c50aa4d7b1e09b87dec91c3525e82658c5", checked := Ybaf.checked }
namespace Rows
def none {H : Type} : Left H := { results := [], args := [] }

/- WHAT THE LISTED PACKAGE-LEVEL VARIABLES READ AS WHEN THE CALL BEGINS. Each datum BY PROGRAM (the guide's laid-datum.mjs) off the statement by which the dump's own 'gosem.cut.vars' lays the variable. In a bare row this is a premise. The card (YbulkbcbiFmtCards.lean) ties it to the program's text. -/
def laid_example_com_vestledger_vestledger_journal_header {H : Type} : DataW H := .slice [.lit (.string [100, 97, 116, 101]), .lit (.string [101, 118, 101, 110, 116]), .lit (.string [104, 111, 108, 100, 101, 114]), .lit (.string [103, 114, 97, 110, 116]), .lit (.string [115, 104, 97, 114, 101, 115]), .lit (.string [100, 101, 116, 97, 105, 108])] []

/-- 'journal.LawS2660ANilExactly': WHATEVER THE INPUT: true; the input reads as it did. -/
def lawS2660ANilExactlySpec : ChangeSpec := { name := "lawS2660ANilExactly", vars := ["example.com/vestledger/vestledger/journal.header"], fn := fun _ => fun
  | [d1, d2, d3, g1] => { results := [.lit (.bool true)], args := [d1, d2, d3], vars := [g1] }
  | _ => none }
def lawS2660ANilExactlyRow : OpenClaim := { program := "ybulkbcbifmt", sum := "a50cfec2fe2ea8da4ac3b6b68e4aa6c50aa4d7b1e09b87dec91c3525e82658c5", func := "example.com/vestledger/vestledger/journal.LawS2660ANilExactly", spec := "lawS2660ANilExactly", stops := ["fmt.errorf"], inPlace := ["fmt.errorf"], named := ["example.com/vestledger/vestledger/journal.header"], apart := false, laid := [("example.com/vestledger/vestledger/journal.header", laid_example_com_vestledger_vestledger_journal_header)] }
/-- NO THEOREM (fmt's text is open here; it may be false): for the released tool's asking of the row's closed facts alone. THE STATEMENT IS 'LawS2660ANilExactlyToldSaid' (YbulkbcbiFmtCards.lean). -/
def LawS2660ANilExactlyFormAsk : Prop := lawS2660ANilExactlyRow.holds Ybaf.pinned (OpenSpec.ofChange lawS2660ANilExactlySpec)

/-- ITS FALSE NEIGHBOUR: 'it returns false'. Refute it at one input. -/
def lawS2660ANilExactlyWrong : ChangeSpec := { name := "lawS2660ANilExactly", vars := ["example.com/vestledger/vestledger/journal.header"], fn := fun _ => fun
  | [d1, d2, d3, g1] => { results := [.lit (.bool false)], args := [d1, d2, d3], vars := [g1] }
  | _ => none }
def LawS2660ANilExactlyWrongFormAsk : Prop := lawS2660ANilExactlyRow.holds Ybaf.pinned (OpenSpec.ofChange lawS2660ANilExactlyWrong)

/-- 'journal.LawS2660AOrderFree': WHATEVER THE INPUT: true; the input reads as it did. -/
def lawS2660AOrderFreeSpec : ChangeSpec := { name := "lawS2660AOrderFree", vars := ["example.com/vestledger/vestledger/journal.header"], fn := fun _ => fun
  | [d1, d2, d3, d4, g1] => { results := [.lit (.bool true)], args := [d1, d2, d3, d4], vars := [g1] }
  | _ => none }
def lawS2660AOrderFreeRow : OpenClaim := { program := "ybulkbcbifmt", sum := "a50cfec2fe2ea8da4ac3b6b68e4aa6c50aa4d7b1e09b87dec91c3525e82658c5", func := "example.com/vestledger/vestledger/journal.LawS2660AOrderFree", spec := "lawS2660AOrderFree", stops := ["fmt.errorf"], inPlace := ["fmt.errorf"], named := ["example.com/vestledger/vestledger/journal.header"], apart := false, laid := [("example.com/vestledger/vestledger/journal.header", laid_example_com_vestledger_vestledger_journal_header)] }
/-- NO THEOREM (fmt's text is open here; it may be false): for the released tool's asking of the row's closed facts alone. THE STATEMENT IS 'LawS2660AOrderFreeToldSaid' (YbulkbcbiFmtCards.lean). -/
def LawS2660AOrderFreeFormAsk : Prop := lawS2660AOrderFreeRow.holds Ybaf.pinned (OpenSpec.ofChange lawS2660AOrderFreeSpec)

/-- ITS FALSE NEIGHBOUR: 'it returns false'. Refute it at one input. -/
def lawS2660AOrderFreeWrong : ChangeSpec := { name := "lawS2660AOrderFree", vars := ["example.com/vestledger/vestledger/journal.header"], fn := fun _ => fun
  | [d1, d2, d3, d4, g1] => { results := [.lit (.bool false)], args := [d1, d2, d3, d4], vars := [g1] }
  | _ => none }
def LawS2660AOrderFreeWrongFormAsk : Prop := lawS2660AOrderFreeRow.holds Ybaf.pinned (OpenSpec.ofChange lawS2660AOrderFreeWrong)

end Rows
end Go.Proofs.YbulkbcbiFmt
