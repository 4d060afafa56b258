/-
  One closed fact of the row of 'fnSplitNameTokensAreTheMaximalRuns', in a text of its own (the kernel's memory).
-/
import Derived.Test.Qxb6600120aModsRows
import Derived.ProofKit
namespace Go.Proofs.Qxb6600120aMods.fnSplitNameTokensAreTheMaximalRuns.Facts
theorem k26 : ((Rows.fnSplitNameTokensAreTheMaximalRunsRow.lifted == Trym.prog.liftsFinal)) = true := by kernel_rfl
end Go.Proofs.Qxb6600120aMods.fnSplitNameTokensAreTheMaximalRuns.Facts
