/-
  NARROWER THAN 'FOR EVERY INPUT', by the rows' own cells (each row's printed sentence says how): LawS2661CExact: laid · LawS2661CTrailingZero: laid.
  DERIVED. THE GIVEN ROWS OF THIS SEAT. 2 by the template 'for every input the law returns true; each argument reads behind the call as it read before'; 0 by the template 'total and deterministic' (their statements: YbulkbcbwDoorTotals.lean).
  GIVEN WITH THE SEED: the statements are not yours to turn. If you find one false, say at which input.
  Laid BY PROGRAM, IN A SANDBOX (cutbox-rows.mjs): the forced cells as the released guide's own fill.sh prints them over the translation 8df8677f39df3e16… (all of the seat's roots in one cut). By AI agents, Wed Nov 11 2026. No macro, syntax, notation, axiom, sorry.
-/
import Derived.Test.YbulkbcbwDoorChecked
import GoSem.Claim
import GoSem.ClaimJoined
import GoSem.ClaimMapViews
import Derived.JoinedTies
import Derived.KernelRfl
namespace Go.Proofs.YbulkbcbwDoor
/- THE CELL 'sum', in the pinned program and in every row, IS THE sha256 OF THE DUMP (.gsa) THAT YbulkbcbwDoorProg.lean LOADS. Nothing in Lean hashes anything: it is a label: what it is worth is what the hold of that sum in a sandbox is worth. -/
noncomputable def Ybad.pinned : Pinned := { name := "ybulkbcbwdoor", sum := "8df8677f39df3e16f403f2fb48ec5fe27e4b5826acd8faea84617eed25754469", checked := Ybad.checked }
namespace Rows
def none {H : Type} : Left H := { results := [], args := [] }

/- WHAT THE LISTED PACKAGE-LEVEL VARIABLES READ AS WHEN THE CALL BEGINS. Each datum BY PROGRAM (the guide's laid-datum.mjs) off the statement by which the dump's own 'gosem.cut.vars' lays the variable. In a bare row this is a premise. The card (YbulkbcbwDoorCards.lean) ties it to the program's text. -/
def laid_example_com_ogive_ogive_tenTo {H : Type} : DataW H := .agg [.lit (.int .u64 1), .lit (.int .u64 10), .lit (.int .u64 100), .lit (.int .u64 1000), .lit (.int .u64 10000), .lit (.int .u64 100000), .lit (.int .u64 1000000), .lit (.int .u64 10000000), .lit (.int .u64 100000000), .lit (.int .u64 1000000000), .lit (.int .u64 10000000000), .lit (.int .u64 100000000000), .lit (.int .u64 1000000000000), .lit (.int .u64 10000000000000), .lit (.int .u64 100000000000000), .lit (.int .u64 1000000000000000), .lit (.int .u64 10000000000000000), .lit (.int .u64 100000000000000000), .lit (.int .u64 1000000000000000000), .lit (.int .u64 10000000000000000000)]

/-- 'ogive.LawS2661CExact': WHATEVER THE INPUT: true; the input reads as it did. -/
def lawS2661CExactSpec : ChangeSpec := { name := "lawS2661CExact", vars := ["example.com/ogive/ogive.tenTo"], fn := fun _ => fun
  | [d, g1] => { results := [.lit (.bool true)], args := [d], vars := [g1] }
  | _ => none }
def lawS2661CExactRow : OpenClaim := { program := "ybulkbcbwdoor", sum := "8df8677f39df3e16f403f2fb48ec5fe27e4b5826acd8faea84617eed25754469", func := "example.com/ogive/ogive.LawS2661CExact", spec := "lawS2661CExact", named := ["example.com/ogive/ogive.tenTo", "math/bits.divideError", "math/bits.overflowError"], apart := false, laid := [("example.com/ogive/ogive.tenTo", laid_example_com_ogive_ogive_tenTo)] }
def LawS2661CExactSaid : Prop := lawS2661CExactRow.holds Ybad.pinned (OpenSpec.ofChange lawS2661CExactSpec)

/-- ITS FALSE NEIGHBOUR: 'it returns false'. Refute it at one input. -/
def lawS2661CExactWrong : ChangeSpec := { name := "lawS2661CExact", vars := ["example.com/ogive/ogive.tenTo"], fn := fun _ => fun
  | [d, g1] => { results := [.lit (.bool false)], args := [d], vars := [g1] }
  | _ => none }
def LawS2661CExactWrongFalsely : Prop := lawS2661CExactRow.holds Ybad.pinned (OpenSpec.ofChange lawS2661CExactWrong)

/-- 'ogive.LawS2661CTrailingZero': WHATEVER THE INPUT: true; the input reads as it did. -/
def lawS2661CTrailingZeroSpec : ChangeSpec := { name := "lawS2661CTrailingZero", vars := ["example.com/ogive/ogive.tenTo"], fn := fun _ => fun
  | [d, g1] => { results := [.lit (.bool true)], args := [d], vars := [g1] }
  | _ => none }
def lawS2661CTrailingZeroRow : OpenClaim := { program := "ybulkbcbwdoor", sum := "8df8677f39df3e16f403f2fb48ec5fe27e4b5826acd8faea84617eed25754469", func := "example.com/ogive/ogive.LawS2661CTrailingZero", spec := "lawS2661CTrailingZero", named := ["example.com/ogive/ogive.tenTo", "math/bits.divideError", "math/bits.overflowError"], apart := false, laid := [("example.com/ogive/ogive.tenTo", laid_example_com_ogive_ogive_tenTo)] }
def LawS2661CTrailingZeroSaid : Prop := lawS2661CTrailingZeroRow.holds Ybad.pinned (OpenSpec.ofChange lawS2661CTrailingZeroSpec)

/-- ITS FALSE NEIGHBOUR: 'it returns false'. Refute it at one input. -/
def lawS2661CTrailingZeroWrong : ChangeSpec := { name := "lawS2661CTrailingZero", vars := ["example.com/ogive/ogive.tenTo"], fn := fun _ => fun
  | [d, g1] => { results := [.lit (.bool false)], args := [d], vars := [g1] }
  | _ => none }
def LawS2661CTrailingZeroWrongFalsely : Prop := lawS2661CTrailingZeroRow.holds Ybad.pinned (OpenSpec.ofChange lawS2661CTrailingZeroWrong)

end Rows
end Go.Proofs.YbulkbcbwDoor
