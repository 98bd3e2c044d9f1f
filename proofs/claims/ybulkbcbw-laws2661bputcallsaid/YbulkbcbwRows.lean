/-
  No cell of these rows narrows 'for every input' (looked for: loops, veiled, ifaces, maps, wideKeys, modest, calm, conditions, laid).
  DERIVED. THE GIVEN ROWS OF THIS SEAT. 2 by the template 'for every input the law returns true; each argument reads behind the call as it read before'; 0 by the template 'total and deterministic' (their statements: YbulkbcbwTotals.lean).
  GIVEN WITH THE SEED: the statements are not yours to turn. If you find one false, say at which input.
  Laid BY PROGRAM, IN A SANDBOX (cutbox-rows.mjs): the forced cells as the released guide's own fill.sh prints them over the translation a48a0a7729bfd9f0… (all of the seat's roots in one cut). By AI agents, Wed Nov 11 2026. No macro, syntax, notation, axiom, sorry.
-/
import Derived.Test.YbulkbcbwChecked
import GoSem.Claim
import GoSem.ClaimJoined
import GoSem.ClaimMapViews
import Derived.JoinedTies
import Derived.KernelRfl
namespace Go.Proofs.Ybulkbcbw
/- THE CELL 'sum', in the pinned program and in every row, IS THE sha256 OF THE DUMP (.gsa) THAT YbulkbcbwProg.lean LOADS. Nothing in Lean hashes anything: it is a label: what it is worth is what the hold of that sum in a sandbox is worth. -/
noncomputable def Yba.pinned : Pinned := { name := "ybulkbcbw", sum := "a48a0a7729bfd9f0d88d3079ff5eec2bc4ee71fbcb72745fb1e5d73016762ba9", checked := Yba.checked }
namespace Rows
def none {H : Type} : Left H := { results := [], args := [] }

/-- 'ogive.LawS2661BTable': WHATEVER THE INPUT: true; the input reads as it did. -/
def lawS2661BTableSpec : ChangeSpec := { name := "lawS2661BTable", fn := fun _ => fun
  | [d1, d2, d3, d4, d5, d6] => { results := [.lit (.bool true)], args := [d1, d2, d3, d4, d5, d6] }
  | _ => none }
def lawS2661BTableRow : OpenClaim := { program := "ybulkbcbw", sum := "a48a0a7729bfd9f0d88d3079ff5eec2bc4ee71fbcb72745fb1e5d73016762ba9", func := "example.com/ogive/ogive.LawS2661BTable", spec := "lawS2661BTable", apart := false }
def LawS2661BTableSaid : Prop := lawS2661BTableRow.holds Yba.pinned (OpenSpec.ofChange lawS2661BTableSpec)

/-- ITS FALSE NEIGHBOUR: 'it returns false'. Refute it at one input. -/
def lawS2661BTableWrong : ChangeSpec := { name := "lawS2661BTable", fn := fun _ => fun
  | [d1, d2, d3, d4, d5, d6] => { results := [.lit (.bool false)], args := [d1, d2, d3, d4, d5, d6] }
  | _ => none }
def LawS2661BTableWrongFalsely : Prop := lawS2661BTableRow.holds Yba.pinned (OpenSpec.ofChange lawS2661BTableWrong)

/-- 'ogive.LawS2661BPutCall': WHATEVER THE INPUT: true; the input reads as it did. -/
def lawS2661BPutCallSpec : ChangeSpec := { name := "lawS2661BPutCall", fn := fun _ => fun
  | [d1, d2, d3, d4, d5] => { results := [.lit (.bool true)], args := [d1, d2, d3, d4, d5] }
  | _ => none }
def lawS2661BPutCallRow : OpenClaim := { program := "ybulkbcbw", sum := "a48a0a7729bfd9f0d88d3079ff5eec2bc4ee71fbcb72745fb1e5d73016762ba9", func := "example.com/ogive/ogive.LawS2661BPutCall", spec := "lawS2661BPutCall", apart := false }
def LawS2661BPutCallSaid : Prop := lawS2661BPutCallRow.holds Yba.pinned (OpenSpec.ofChange lawS2661BPutCallSpec)

/-- ITS FALSE NEIGHBOUR: 'it returns false'. Refute it at one input. -/
def lawS2661BPutCallWrong : ChangeSpec := { name := "lawS2661BPutCall", fn := fun _ => fun
  | [d1, d2, d3, d4, d5] => { results := [.lit (.bool false)], args := [d1, d2, d3, d4, d5] }
  | _ => none }
def LawS2661BPutCallWrongFalsely : Prop := lawS2661BPutCallRow.holds Yba.pinned (OpenSpec.ofChange lawS2661BPutCallWrong)

end Rows
end Go.Proofs.Ybulkbcbw
