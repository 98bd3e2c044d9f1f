/-
  OWN TEXT. fmt.Errorf (7) at three operands.
-/
import Derived.Test.YbulkbcbiFmtFacts
import Derived.WalkKit
import Derived.ProofKit
import Derived.WalkSpells
import Derived.WalkLawsBesides
import Derived.Handy
namespace Go.Proofs.YbulkbcbiFmt
open Go.ChangeShapes Go.WideShapes Go.ChangeAt Go.RowKit Go.Extern.Stop Go.Stop Go.Extern
attribute [local go_sem] Ybaf.call8 Ybaf.guard Ybaf.fmt0 Ybaf.fmt0r Ybaf.op29_115 Ybaf.op9_115 Ybaf.op9_113 Ybaf.ptr36 Ybaf.elem36 Ybaf.isError36
set_option maxHeartbeats 400000 in
theorem errorf_three (k h f : ByteArray) (b : Nat) (w : World) (h0 : w.cell? ⟨b, 0, none⟩ = some (.iface 29 (.string k))) (h1 : w.cell? ⟨b, 1, none⟩ = some (.iface 9 (.string h))) (h2 : w.cell? ⟨b, 2, none⟩ = some (.iface 9 (.string f))) :
    Calls Ybaf.prog 7 #[.string ⟨#[97, 32, 37, 115, 32, 108, 105, 110, 101, 32, 116, 97, 107, 101, 115, 32, 110, 111, 32, 37, 115, 44, 32, 102, 111, 117, 110, 100, 32, 37, 113]⟩, .slice (some ⟨b, 0, none⟩) 3 3] w fun e w' => ∃ p, e = .returned (.iface 36 p) ∧ Below w.heap.size w w' := by
  go_enter Ybaf.func7, Ybaf.ntmps7
  go_wp2
  go_ret
  exact ⟨_, rfl, ((Below.refl _ w).alloc (Nat.le_refl _) _).drew⟩
end Go.Proofs.YbulkbcbiFmt
