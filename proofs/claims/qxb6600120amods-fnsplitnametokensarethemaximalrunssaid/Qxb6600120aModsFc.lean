/-
  One closed fact of the row of 'fnSplitNameTokensAreTheMaximalRuns', in a text of its own (the kernel's memory).
-/
import Derived.Test.Qxb6600120aModsRows
import Derived.ProofKit
namespace Go.Proofs.Qxb6600120aMods.fnSplitNameTokensAreTheMaximalRuns.Facts
theorem k27 : ((Trym.prog.make == some Rows.fnSplitNameTokensAreTheMaximalRunsRow.make)) = true := by kernel_rfl
end Go.Proofs.Qxb6600120aMods.fnSplitNameTokensAreTheMaximalRuns.Facts
