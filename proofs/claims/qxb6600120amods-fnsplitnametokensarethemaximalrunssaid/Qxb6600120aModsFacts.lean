/-
  The closed facts of the row of 'fnSplitNameTokensAreTheMaximalRuns', one theorem each, so that no single one asks too much memory of the kernel; and their conjunction.
-/
import Derived.Test.Qxb6600120aModsRows
import Derived.ProofKit
import Derived.Test.Qxb6600120aModsFa
import Derived.Test.Qxb6600120aModsFb
import Derived.Test.Qxb6600120aModsFc
namespace Go.Proofs.Qxb6600120aMods.fnSplitNameTokensAreTheMaximalRuns.Facts

theorem k0 : (Rows.fnSplitNameTokensAreTheMaximalRunsRow.wf (OpenSpec.ofChange Rows.fnSplitNameTokensAreTheMaximalRunsSpec)) = true := by kernel_rfl
theorem k1 : (laidOutB Trym.prog) = true := by kernel_rfl
theorem k2 : (mapsRowed Trym.prog) = true := by kernel_rfl
theorem k3 : (Trym.f3.params.all (Trym.prog.readableRec ·)) = true := by kernel_rfl
theorem k4 : (namedTie Trym.prog Rows.fnSplitNameTokensAreTheMaximalRunsRow.named Rows.fnSplitNameTokensAreTheMaximalRunsSpec.vars) = true := by kernel_rfl
theorem k5 : ((Rows.fnSplitNameTokensAreTheMaximalRunsRow.stops == [])) = true := by kernel_rfl
theorem k6 : ((Trym.prog.stops == [])) = true := by kernel_rfl
theorem k7 : ((Rows.fnSplitNameTokensAreTheMaximalRunsRow.knobs == [])) = true := by kernel_rfl
theorem k8 : ((Trym.prog.stopKnobs == [])) = true := by kernel_rfl
theorem k9 : ((Rows.fnSplitNameTokensAreTheMaximalRunsRow.inPlace == Trym.prog.inPlace 3)) = true := by kernel_rfl
theorem k10 : ((Rows.fnSplitNameTokensAreTheMaximalRunsRow.unfollowed == Trym.prog.unfollowed 3)) = true := by kernel_rfl
theorem k11 : ((Rows.fnSplitNameTokensAreTheMaximalRunsRow.recurses == Trym.prog.recurses 3)) = true := by kernel_rfl
theorem k12 : ((Rows.fnSplitNameTokensAreTheMaximalRunsRow.named == Trym.prog.varsNamed 3)) = true := by kernel_rfl
theorem k13 : ((Rows.fnSplitNameTokensAreTheMaximalRunsRow.maps == (Trym.f3.params.toList ++ Rows.fnSplitNameTokensAreTheMaximalRunsSpec.plain.varTypes Trym.prog).any (Trym.prog.mapsRec ·))) = true := by kernel_rfl
theorem k14 : ((Rows.fnSplitNameTokensAreTheMaximalRunsRow.ifaces == (Trym.f3.params.toList ++ Rows.fnSplitNameTokensAreTheMaximalRunsSpec.plain.varTypes Trym.prog).any (Trym.prog.ifacesRec ·))) = true := by kernel_rfl
theorem k15 : ((Rows.fnSplitNameTokensAreTheMaximalRunsRow.mapsOut == Trym.prog.mapsAmong Trym.f3.resultTypes.toList)) = true := by kernel_rfl
theorem k16 : ((Rows.fnSplitNameTokensAreTheMaximalRunsRow.loops == (Trym.f3.params.toList ++ Rows.fnSplitNameTokensAreTheMaximalRunsSpec.plain.varTypes Trym.prog).any (Trym.prog.loopsFrom ·))) = true := by kernel_rfl
theorem k17 : ((Rows.fnSplitNameTokensAreTheMaximalRunsRow.wideKeys == (Trym.f3.params.toList ++ Rows.fnSplitNameTokensAreTheMaximalRunsSpec.plain.varTypes Trym.prog ++ Trym.f3.resultTypes.toList).any (Trym.prog.wideKeysFrom ·))) = true := by kernel_rfl
theorem k18 : (Rows.fnSplitNameTokensAreTheMaximalRunsSpec.vars.all (Trym.prog.varReadable ·)) = true := by kernel_rfl
theorem k19 : (Trym.f3.resultTypes.all (fun t => Trym.prog.readableRec t && decide (t < Trym.prog.types.size))) = true := by kernel_rfl
theorem k20 : ((Rows.fnSplitNameTokensAreTheMaximalRunsRow.ifacesOut == Trym.f3.resultTypes.toList.any (Trym.prog.ifacesRec ·))) = true := by kernel_rfl
theorem k21 : ((Rows.fnSplitNameTokensAreTheMaximalRunsRow.loopsOut == Trym.f3.resultTypes.toList.any (Trym.prog.loopsFrom ·))) = true := by kernel_rfl
theorem k22 : ((Rows.fnSplitNameTokensAreTheMaximalRunsRow.plainKeys == Trym.prog.plainKeys)) = true := by kernel_rfl
theorem k23 : (Rows.fnSplitNameTokensAreTheMaximalRunsRow.shortTexts.isNone) = true := by kernel_rfl
theorem k24 : (Trym.prog.stopsHeard) = true := by kernel_rfl
theorem k28 : ((Rows.fnSplitNameTokensAreTheMaximalRunsRow.kinds == (if Rows.fnSplitNameTokensAreTheMaximalRunsRow.domain.isEmpty then [] else Trym.f3.params.toList.map fun t => match Trym.prog.underlying t with | some (.int k) => some k | _ => none))) = true := by kernel_rfl
theorem k29 : ((Rows.fnSplitNameTokensAreTheMaximalRunsRow.pinned == Rows.fnSplitNameTokensAreTheMaximalRunsRow.pinnedBy)) = true := by kernel_rfl
theorem k30 : ((Rows.fnSplitNameTokensAreTheMaximalRunsRow.veiled == (Trym.f3.params.toList ++ Rows.fnSplitNameTokensAreTheMaximalRunsSpec.plain.varTypes Trym.prog ++ Trym.f3.resultTypes.toList).any (Trym.prog.veiledRec ·))) = true := by kernel_rfl
theorem k31 : (Rows.fnSplitNameTokensAreTheMaximalRunsRow.veiledFits Trym.prog Trym.f3.params.toList (Trym.f3.params.toList ++ Rows.fnSplitNameTokensAreTheMaximalRunsSpec.plain.varTypes Trym.prog ++ Trym.f3.resultTypes.toList)) = true := by kernel_rfl

theorem and2 {a b : Bool} (h : a = true) (k : b = true) : (a && b) = true := by rw [h, k]; rfl

theorem closed : joinedFacts Trym.prog 3 Trym.f3 Rows.fnSplitNameTokensAreTheMaximalRunsSpec Rows.fnSplitNameTokensAreTheMaximalRunsRow = true := by
  unfold joinedFacts
  exact (and2 (and2 (and2 (and2 (and2 (and2 (and2 (and2 (and2 (and2 (and2 (and2 (and2 (and2 (and2 (and2 (and2 (and2 (and2 (and2 (and2 (and2 (and2 (and2 (and2 (and2 (and2 (and2 (and2 (and2 (and2 k0 k1) k2) k3) k4) k5) k6) k7) k8) k9) k10) k11) k12) k13) k14) k15) k16) k17) k18) k19) k20) k21) k22) k23) k24) k25) k26) k27) k28) k29) k30) k31)
end Go.Proofs.Qxb6600120aMods.fnSplitNameTokensAreTheMaximalRuns.Facts
