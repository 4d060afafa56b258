/-
  No cell of these rows narrows 'for every input' (looked for: loops, veiled, ifaces, maps, wideKeys, modest, calm, conditions, laid).
  DERIVED. THE GIVEN ROWS OF THIS SEAT. 8 by the template 'for every input the law returns true; each argument reads behind the call as it read before'; 0 by the template 'total and deterministic' (their statements: Qxb6600120aModsTotals.lean).
  GIVEN WITH THE SEED: the statements are not yours to turn. If you find one false, say at which input.
  Laid BY PROGRAM, IN A SANDBOX (cutbox-rows.mjs): the forced cells as the released guide's own fill.sh prints them over the translation 299372a6bcb19adc… (all of the seat's roots in one cut). By AI agents, Wed Nov 11 2026. No macro, syntax, notation, axiom, sorry.
-/
import Derived.Test.Qxb6600120aModsChecked
import GoSem.Claim
import GoSem.ClaimJoined
import GoSem.ClaimMapViews
import Derived.JoinedTies
import Derived.KernelRfl
namespace Go.Proofs.Qxb6600120aMods
/- THE CELL 'sum', in the pinned program and in every row, IS THE sha256 OF THE DUMP (.gsa) THAT Qxb6600120aModsProg.lean LOADS. Nothing in Lean hashes anything: it is a label: what it is worth is what the hold of that sum in a sandbox is worth. -/
noncomputable def Trym.pinned : Pinned := { name := "qxb6600120amods", sum := "299372a6bcb19adcc5e47bd1ce6e57c896904cc4cb8d5ae0ba43f328c8f3ba3b", checked := Trym.checked }
namespace Rows
def none {H : Type} : Left H := { results := [], args := [] }

/-- 'zzlaws_root_b1.FnSplitNameTokensAreTheMaximalRuns': WHATEVER THE INPUT: true; the input reads as it did. -/
def fnSplitNameTokensAreTheMaximalRunsSpec : ChangeSpec := { name := "fnSplitNameTokensAreTheMaximalRuns", fn := fun _ => fun
  | [d] => { results := [.lit (.bool true)], args := [d] }
  | _ => none }
def fnSplitNameTokensAreTheMaximalRunsRow : OpenClaim := { program := "qxb6600120amods", sum := "299372a6bcb19adcc5e47bd1ce6e57c896904cc4cb8d5ae0ba43f328c8f3ba3b", func := "example.com/colonnade/colonnade/zzlaws_root_b1.FnSplitNameTokensAreTheMaximalRuns", spec := "fnSplitNameTokensAreTheMaximalRuns", make := .lifted ["publicsums"], apart := false }
def FnSplitNameTokensAreTheMaximalRunsSaid : Prop := fnSplitNameTokensAreTheMaximalRunsRow.holds Trym.pinned (OpenSpec.ofChange fnSplitNameTokensAreTheMaximalRunsSpec)

/-- ITS FALSE NEIGHBOUR: 'it returns false'. Refute it at one input. -/
def fnSplitNameTokensAreTheMaximalRunsWrong : ChangeSpec := { name := "fnSplitNameTokensAreTheMaximalRuns", fn := fun _ => fun
  | [d] => { results := [.lit (.bool false)], args := [d] }
  | _ => none }
def FnSplitNameTokensAreTheMaximalRunsWrongFalsely : Prop := fnSplitNameTokensAreTheMaximalRunsRow.holds Trym.pinned (OpenSpec.ofChange fnSplitNameTokensAreTheMaximalRunsWrong)

/-- 'zzlaws_root_b1.FnSplitNameNumbersAreExactlyTheCanonicalDecimals': WHATEVER THE INPUT: true; the input reads as it did. -/
def fnSplitNameNumbersAreExactlyTheCanonicalDecimalsSpec : ChangeSpec := { name := "fnSplitNameNumbersAreExactlyTheCanonicalDecimals", fn := fun _ => fun
  | [d] => { results := [.lit (.bool true)], args := [d] }
  | _ => none }
def fnSplitNameNumbersAreExactlyTheCanonicalDecimalsRow : OpenClaim := { program := "qxb6600120amods", sum := "299372a6bcb19adcc5e47bd1ce6e57c896904cc4cb8d5ae0ba43f328c8f3ba3b", func := "example.com/colonnade/colonnade/zzlaws_root_b1.FnSplitNameNumbersAreExactlyTheCanonicalDecimals", spec := "fnSplitNameNumbersAreExactlyTheCanonicalDecimals", make := .lifted ["publicsums"], apart := false }
def FnSplitNameNumbersAreExactlyTheCanonicalDecimalsSaid : Prop := fnSplitNameNumbersAreExactlyTheCanonicalDecimalsRow.holds Trym.pinned (OpenSpec.ofChange fnSplitNameNumbersAreExactlyTheCanonicalDecimalsSpec)

/-- ITS FALSE NEIGHBOUR: 'it returns false'. Refute it at one input. -/
def fnSplitNameNumbersAreExactlyTheCanonicalDecimalsWrong : ChangeSpec := { name := "fnSplitNameNumbersAreExactlyTheCanonicalDecimals", fn := fun _ => fun
  | [d] => { results := [.lit (.bool false)], args := [d] }
  | _ => none }
def FnSplitNameNumbersAreExactlyTheCanonicalDecimalsWrongFalsely : Prop := fnSplitNameNumbersAreExactlyTheCanonicalDecimalsRow.holds Trym.pinned (OpenSpec.ofChange fnSplitNameNumbersAreExactlyTheCanonicalDecimalsWrong)

/-- 'zzlaws_root_b1.FnSplitNameAppendsAcrossARunBoundary': WHATEVER THE INPUT: true; the input reads as it did. -/
def fnSplitNameAppendsAcrossARunBoundarySpec : ChangeSpec := { name := "fnSplitNameAppendsAcrossARunBoundary", fn := fun _ => fun
  | [d1, d2] => { results := [.lit (.bool true)], args := [d1, d2] }
  | _ => none }
def fnSplitNameAppendsAcrossARunBoundaryRow : OpenClaim := { program := "qxb6600120amods", sum := "299372a6bcb19adcc5e47bd1ce6e57c896904cc4cb8d5ae0ba43f328c8f3ba3b", func := "example.com/colonnade/colonnade/zzlaws_root_b1.FnSplitNameAppendsAcrossARunBoundary", spec := "fnSplitNameAppendsAcrossARunBoundary", make := .lifted ["publicsums"], apart := false }
def FnSplitNameAppendsAcrossARunBoundarySaid : Prop := fnSplitNameAppendsAcrossARunBoundaryRow.holds Trym.pinned (OpenSpec.ofChange fnSplitNameAppendsAcrossARunBoundarySpec)

/-- ITS FALSE NEIGHBOUR: 'it returns false'. Refute it at one input. -/
def fnSplitNameAppendsAcrossARunBoundaryWrong : ChangeSpec := { name := "fnSplitNameAppendsAcrossARunBoundary", fn := fun _ => fun
  | [d1, d2] => { results := [.lit (.bool false)], args := [d1, d2] }
  | _ => none }
def FnSplitNameAppendsAcrossARunBoundaryWrongFalsely : Prop := fnSplitNameAppendsAcrossARunBoundaryRow.holds Trym.pinned (OpenSpec.ofChange fnSplitNameAppendsAcrossARunBoundaryWrong)

/-- 'zzlaws_root_b1.FnAlignmentNextFollowsTheSAMSpec': WHATEVER THE INPUT: true; the input reads as it did. -/
def fnAlignmentNextFollowsTheSAMSpecSpec : ChangeSpec := { name := "fnAlignmentNextFollowsTheSAMSpec", fn := fun _ => fun
  | [d1, d2] => { results := [.lit (.bool true)], args := [d1, d2] }
  | _ => none }
def fnAlignmentNextFollowsTheSAMSpecRow : OpenClaim := { program := "qxb6600120amods", sum := "299372a6bcb19adcc5e47bd1ce6e57c896904cc4cb8d5ae0ba43f328c8f3ba3b", func := "example.com/colonnade/colonnade/zzlaws_root_b1.FnAlignmentNextFollowsTheSAMSpec", spec := "fnAlignmentNextFollowsTheSAMSpec", make := .lifted ["publicsums"], apart := false }
def FnAlignmentNextFollowsTheSAMSpecSaid : Prop := fnAlignmentNextFollowsTheSAMSpecRow.holds Trym.pinned (OpenSpec.ofChange fnAlignmentNextFollowsTheSAMSpecSpec)

/-- ITS FALSE NEIGHBOUR: 'it returns false'. Refute it at one input. -/
def fnAlignmentNextFollowsTheSAMSpecWrong : ChangeSpec := { name := "fnAlignmentNextFollowsTheSAMSpec", fn := fun _ => fun
  | [d1, d2] => { results := [.lit (.bool false)], args := [d1, d2] }
  | _ => none }
def FnAlignmentNextFollowsTheSAMSpecWrongFalsely : Prop := fnAlignmentNextFollowsTheSAMSpecRow.holds Trym.pinned (OpenSpec.ofChange fnAlignmentNextFollowsTheSAMSpecWrong)

/-- 'zzlaws_root_b1.FnAlignmentNextPlacesRiseWithinTheSpan': WHATEVER THE INPUT: true; the input reads as it did. -/
def fnAlignmentNextPlacesRiseWithinTheSpanSpec : ChangeSpec := { name := "fnAlignmentNextPlacesRiseWithinTheSpan", fn := fun _ => fun
  | [d1, d2] => { results := [.lit (.bool true)], args := [d1, d2] }
  | _ => none }
def fnAlignmentNextPlacesRiseWithinTheSpanRow : OpenClaim := { program := "qxb6600120amods", sum := "299372a6bcb19adcc5e47bd1ce6e57c896904cc4cb8d5ae0ba43f328c8f3ba3b", func := "example.com/colonnade/colonnade/zzlaws_root_b1.FnAlignmentNextPlacesRiseWithinTheSpan", spec := "fnAlignmentNextPlacesRiseWithinTheSpan", make := .lifted ["publicsums"], apart := false }
def FnAlignmentNextPlacesRiseWithinTheSpanSaid : Prop := fnAlignmentNextPlacesRiseWithinTheSpanRow.holds Trym.pinned (OpenSpec.ofChange fnAlignmentNextPlacesRiseWithinTheSpanSpec)

/-- ITS FALSE NEIGHBOUR: 'it returns false'. Refute it at one input. -/
def fnAlignmentNextPlacesRiseWithinTheSpanWrong : ChangeSpec := { name := "fnAlignmentNextPlacesRiseWithinTheSpan", fn := fun _ => fun
  | [d1, d2] => { results := [.lit (.bool false)], args := [d1, d2] }
  | _ => none }
def FnAlignmentNextPlacesRiseWithinTheSpanWrongFalsely : Prop := fnAlignmentNextPlacesRiseWithinTheSpanRow.holds Trym.pinned (OpenSpec.ofChange fnAlignmentNextPlacesRiseWithinTheSpanWrong)

/-- 'zzlaws_root_b1.FnAlignmentNextShiftsWithItsStart': WHATEVER THE INPUT: true; the input reads as it did. -/
def fnAlignmentNextShiftsWithItsStartSpec : ChangeSpec := { name := "fnAlignmentNextShiftsWithItsStart", fn := fun _ => fun
  | [d1, d2, d3] => { results := [.lit (.bool true)], args := [d1, d2, d3] }
  | _ => none }
def fnAlignmentNextShiftsWithItsStartRow : OpenClaim := { program := "qxb6600120amods", sum := "299372a6bcb19adcc5e47bd1ce6e57c896904cc4cb8d5ae0ba43f328c8f3ba3b", func := "example.com/colonnade/colonnade/zzlaws_root_b1.FnAlignmentNextShiftsWithItsStart", spec := "fnAlignmentNextShiftsWithItsStart", make := .lifted ["publicsums"], apart := false }
def FnAlignmentNextShiftsWithItsStartSaid : Prop := fnAlignmentNextShiftsWithItsStartRow.holds Trym.pinned (OpenSpec.ofChange fnAlignmentNextShiftsWithItsStartSpec)

/-- ITS FALSE NEIGHBOUR: 'it returns false'. Refute it at one input. -/
def fnAlignmentNextShiftsWithItsStartWrong : ChangeSpec := { name := "fnAlignmentNextShiftsWithItsStart", fn := fun _ => fun
  | [d1, d2, d3] => { results := [.lit (.bool false)], args := [d1, d2, d3] }
  | _ => none }
def FnAlignmentNextShiftsWithItsStartWrongFalsely : Prop := fnAlignmentNextShiftsWithItsStartRow.holds Trym.pinned (OpenSpec.ofChange fnAlignmentNextShiftsWithItsStartWrong)

/-- 'zzlaws_root_b1.FnMatcherStateStaysWellFormed': WHATEVER THE INPUT: true; the input reads as it did. -/
def fnMatcherStateStaysWellFormedSpec : ChangeSpec := { name := "fnMatcherStateStaysWellFormed", fn := fun _ => fun
  | [d1, d2, d3, d4, d5] => { results := [.lit (.bool true)], args := [d1, d2, d3, d4, d5] }
  | _ => none }
def fnMatcherStateStaysWellFormedRow : OpenClaim := { program := "qxb6600120amods", sum := "299372a6bcb19adcc5e47bd1ce6e57c896904cc4cb8d5ae0ba43f328c8f3ba3b", func := "example.com/colonnade/colonnade/zzlaws_root_b1.FnMatcherStateStaysWellFormed", spec := "fnMatcherStateStaysWellFormed", make := .lifted ["publicsums"], apart := false }
def FnMatcherStateStaysWellFormedSaid : Prop := fnMatcherStateStaysWellFormedRow.holds Trym.pinned (OpenSpec.ofChange fnMatcherStateStaysWellFormedSpec)

/-- ITS FALSE NEIGHBOUR: 'it returns false'. Refute it at one input. -/
def fnMatcherStateStaysWellFormedWrong : ChangeSpec := { name := "fnMatcherStateStaysWellFormed", fn := fun _ => fun
  | [d1, d2, d3, d4, d5] => { results := [.lit (.bool false)], args := [d1, d2, d3, d4, d5] }
  | _ => none }
def FnMatcherStateStaysWellFormedWrongFalsely : Prop := fnMatcherStateStaysWellFormedRow.holds Trym.pinned (OpenSpec.ofChange fnMatcherStateStaysWellFormedWrong)

/-- 'zzlaws_root_b1.FnMatcherPlaceFollowsARepeat': WHATEVER THE INPUT: true; the input reads as it did. -/
def fnMatcherPlaceFollowsARepeatSpec : ChangeSpec := { name := "fnMatcherPlaceFollowsARepeat", fn := fun _ => fun
  | [d1, d2, d3, d4, d5] => { results := [.lit (.bool true)], args := [d1, d2, d3, d4, d5] }
  | _ => none }
def fnMatcherPlaceFollowsARepeatRow : OpenClaim := { program := "qxb6600120amods", sum := "299372a6bcb19adcc5e47bd1ce6e57c896904cc4cb8d5ae0ba43f328c8f3ba3b", func := "example.com/colonnade/colonnade/zzlaws_root_b1.FnMatcherPlaceFollowsARepeat", spec := "fnMatcherPlaceFollowsARepeat", make := .lifted ["publicsums"], apart := false }
def FnMatcherPlaceFollowsARepeatSaid : Prop := fnMatcherPlaceFollowsARepeatRow.holds Trym.pinned (OpenSpec.ofChange fnMatcherPlaceFollowsARepeatSpec)

/-- ITS FALSE NEIGHBOUR: 'it returns false'. Refute it at one input. -/
def fnMatcherPlaceFollowsARepeatWrong : ChangeSpec := { name := "fnMatcherPlaceFollowsARepeat", fn := fun _ => fun
  | [d1, d2, d3, d4, d5] => { results := [.lit (.bool false)], args := [d1, d2, d3, d4, d5] }
  | _ => none }
def FnMatcherPlaceFollowsARepeatWrongFalsely : Prop := fnMatcherPlaceFollowsARepeatRow.holds Trym.pinned (OpenSpec.ofChange fnMatcherPlaceFollowsARepeatWrong)

end Rows
end Go.Proofs.Qxb6600120aMods
