/-
  No cell of these rows narrows 'for every input' (looked for: loops, veiled, ifaces, maps, wideKeys, modest, calm, conditions, laid).
  DERIVED. THE GIVEN ROWS OF THIS SEAT. 2 by the template 'for every input the law returns true; each argument reads behind the call as it read before'; 0 by the template 'total and deterministic' (their statements: YbulkbcbiTotals.lean).
  GIVEN WITH THE SEED: the statements are not yours to turn. If you find one false, say at which input.
  Laid BY PROGRAM, IN A SANDBOX (cutbox-rows.mjs): the forced cells as the released guide's own fill.sh prints them over the translation 1cbf1268f4824764… (all of the seat's roots in one cut). By AI agents, Wed Nov 11 2026. No macro, syntax, notation, axiom, sorry.
-/
import Derived.Test.YbulkbcbiChecked
import GoSem.Claim
import GoSem.ClaimJoined
import GoSem.ClaimMapViews
import Derived.JoinedTies
import Derived.KernelRfl
namespace Go.Proofs.Ybulkbcbi
/- THE CELL 'sum', in the pinned program and in every row, IS THE sha256 OF THE DUMP (.gsa) THAT YbulkbcbiProg.lean LOADS. Nothing in Lean hashes anything: it is a label: what it is worth is what the hold of that sum in a sandbox is worth. -/
noncomputable def Yba.pinned : Pinned := { name := "ybulkbcbi", sum := "1cbf1268f48247643eb68fdbbdb845b9ef31f719838b6d9c075f64072913c9e7", checked := Yba.checked }
namespace Rows
def none {H : Type} : Left H := { results := [], args := [] }

/-- 'plan.LawS2660CExact': WHATEVER THE INPUT: true; the input reads as it did. -/
def lawS2660CExactSpec : ChangeSpec := { name := "lawS2660CExact", fn := fun _ => fun
  | [d1, d2] => { results := [.lit (.bool true)], args := [d1, d2] }
  | _ => none }
def lawS2660CExactRow : OpenClaim := { program := "ybulkbcbi", sum := "1cbf1268f48247643eb68fdbbdb845b9ef31f719838b6d9c075f64072913c9e7", func := "example.com/vestledger/vestledger/plan.LawS2660CExact", spec := "lawS2660CExact", apart := false }
def LawS2660CExactSaid : Prop := lawS2660CExactRow.holds Yba.pinned (OpenSpec.ofChange lawS2660CExactSpec)

/-- ITS FALSE NEIGHBOUR: 'it returns false'. Refute it at one input. -/
def lawS2660CExactWrong : ChangeSpec := { name := "lawS2660CExact", fn := fun _ => fun
  | [d1, d2] => { results := [.lit (.bool false)], args := [d1, d2] }
  | _ => none }
def LawS2660CExactWrongFalsely : Prop := lawS2660CExactRow.holds Yba.pinned (OpenSpec.ofChange lawS2660CExactWrong)

/-- 'plan.LawS2660CAssoc': WHATEVER THE INPUT: true; the input reads as it did. -/
def lawS2660CAssocSpec : ChangeSpec := { name := "lawS2660CAssoc", fn := fun _ => fun
  | [d1, d2, d3] => { results := [.lit (.bool true)], args := [d1, d2, d3] }
  | _ => none }
def lawS2660CAssocRow : OpenClaim := { program := "ybulkbcbi", sum := "1cbf1268f48247643eb68fdbbdb845b9ef31f719838b6d9c075f64072913c9e7", func := "example.com/vestledger/vestledger/plan.LawS2660CAssoc", spec := "lawS2660CAssoc", apart := false }
def LawS2660CAssocSaid : Prop := lawS2660CAssocRow.holds Yba.pinned (OpenSpec.ofChange lawS2660CAssocSpec)

/-- ITS FALSE NEIGHBOUR: 'it returns false'. Refute it at one input. -/
def lawS2660CAssocWrong : ChangeSpec := { name := "lawS2660CAssoc", fn := fun _ => fun
  | [d1, d2, d3] => { results := [.lit (.bool false)], args := [d1, d2, d3] }
  | _ => none }
def LawS2660CAssocWrongFalsely : Prop := lawS2660CAssocRow.holds Yba.pinned (OpenSpec.ofChange lawS2660CAssocWrong)

end Rows
end Go.Proofs.Ybulkbcbi
