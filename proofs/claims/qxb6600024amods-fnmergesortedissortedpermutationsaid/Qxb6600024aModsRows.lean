/-
  No cell of these rows narrows 'for every input' (looked for: loops, veiled, ifaces, maps, wideKeys, modest, calm, conditions, laid).
  DERIVED. THE GIVEN ROWS OF THIS SEAT. 6 by the template 'for every input the law returns true; each argument reads behind the call as it read before'; 0 by the template 'total and deterministic' (their statements: Qxb6600024aModsTotals.lean).
  GIVEN WITH THE SEED: the statements are not yours to turn. If you find one false, say at which input.
  Laid BY PROGRAM, IN A SANDBOX (cutbox-rows.mjs): the forced cells as the released guide's own fill.sh prints them over the translation 1b204e5316aed74c… (all of the seat's roots in one cut). By AI agents, Wed Nov 11 2026. No macro, syntax, notation, axiom, sorry.
-/
import Derived.Test.Qxb6600024aModsChecked
import GoSem.Claim
import GoSem.ClaimJoined
import GoSem.ClaimMapViews
import Derived.JoinedTies
import Derived.KernelRfl
namespace Go.Proofs.Qxb6600024aMods
/- THE CELL 'sum', in the pinned program and in every row, IS THE sha256 OF THE DUMP (.gsa) THAT Qxb6600024aModsProg.lean LOADS. Nothing in Lean hashes anything: it is a label: what it is worth is what the hold of that sum in a sandbox is worth. -/
noncomputable def Trym.pinned : Pinned := { name := "qxb6600024amods", sum := "1b204e5316aed74c4fd29f29c7caa0791aa7e715d89ced81c01babf3562bd65c", checked := Trym.checked }
namespace Rows
def none {H : Type} : Left H := { results := [], args := [] }

/-- 'zzlaws_internal_store_b1.FnKeepReturnsLineAndFillsRoomExactly': WHATEVER THE INPUT: true; the input reads as it did. -/
def fnKeepReturnsLineAndFillsRoomExactlySpec : ChangeSpec := { name := "fnKeepReturnsLineAndFillsRoomExactly", fn := fun _ => fun
  | [d1, d2, d3] => { results := [.lit (.bool true)], args := [d1, d2, d3] }
  | _ => none }
def fnKeepReturnsLineAndFillsRoomExactlyRow : OpenClaim := { program := "qxb6600024amods", sum := "1b204e5316aed74c4fd29f29c7caa0791aa7e715d89ced81c01babf3562bd65c", func := "example.com/barua/barua/zzlaws_internal_store_b1.FnKeepReturnsLineAndFillsRoomExactly", spec := "fnKeepReturnsLineAndFillsRoomExactly", make := .lifted ["publicsums"], apart := false }
def FnKeepReturnsLineAndFillsRoomExactlySaid : Prop := fnKeepReturnsLineAndFillsRoomExactlyRow.holds Trym.pinned (OpenSpec.ofChange fnKeepReturnsLineAndFillsRoomExactlySpec)

/-- ITS FALSE NEIGHBOUR: 'it returns false'. Refute it at one input. -/
def fnKeepReturnsLineAndFillsRoomExactlyWrong : ChangeSpec := { name := "fnKeepReturnsLineAndFillsRoomExactly", fn := fun _ => fun
  | [d1, d2, d3] => { results := [.lit (.bool false)], args := [d1, d2, d3] }
  | _ => none }
def FnKeepReturnsLineAndFillsRoomExactlyWrongFalsely : Prop := fnKeepReturnsLineAndFillsRoomExactlyRow.holds Trym.pinned (OpenSpec.ofChange fnKeepReturnsLineAndFillsRoomExactlyWrong)

/-- 'zzlaws_internal_store_b1.FnKeepResultIsItsOwnAndShieldsRoom': WHATEVER THE INPUT: true; the input reads as it did. -/
def fnKeepResultIsItsOwnAndShieldsRoomSpec : ChangeSpec := { name := "fnKeepResultIsItsOwnAndShieldsRoom", fn := fun _ => fun
  | [d1, d2, d3, d4] => { results := [.lit (.bool true)], args := [d1, d2, d3, d4] }
  | _ => none }
def fnKeepResultIsItsOwnAndShieldsRoomRow : OpenClaim := { program := "qxb6600024amods", sum := "1b204e5316aed74c4fd29f29c7caa0791aa7e715d89ced81c01babf3562bd65c", func := "example.com/barua/barua/zzlaws_internal_store_b1.FnKeepResultIsItsOwnAndShieldsRoom", spec := "fnKeepResultIsItsOwnAndShieldsRoom", make := .lifted ["publicsums"], apart := false }
def FnKeepResultIsItsOwnAndShieldsRoomSaid : Prop := fnKeepResultIsItsOwnAndShieldsRoomRow.holds Trym.pinned (OpenSpec.ofChange fnKeepResultIsItsOwnAndShieldsRoomSpec)

/-- ITS FALSE NEIGHBOUR: 'it returns false'. Refute it at one input. -/
def fnKeepResultIsItsOwnAndShieldsRoomWrong : ChangeSpec := { name := "fnKeepResultIsItsOwnAndShieldsRoom", fn := fun _ => fun
  | [d1, d2, d3, d4] => { results := [.lit (.bool false)], args := [d1, d2, d3, d4] }
  | _ => none }
def FnKeepResultIsItsOwnAndShieldsRoomWrongFalsely : Prop := fnKeepResultIsItsOwnAndShieldsRoomRow.holds Trym.pinned (OpenSpec.ofChange fnKeepResultIsItsOwnAndShieldsRoomWrong)

/-- 'zzlaws_internal_store_b1.FnKeepScriptKeepsEveryEarlierLine': WHATEVER THE INPUT: true; the input reads as it did. -/
def fnKeepScriptKeepsEveryEarlierLineSpec : ChangeSpec := { name := "fnKeepScriptKeepsEveryEarlierLine", fn := fun _ => fun
  | [d1, d2] => { results := [.lit (.bool true)], args := [d1, d2] }
  | _ => none }
def fnKeepScriptKeepsEveryEarlierLineRow : OpenClaim := { program := "qxb6600024amods", sum := "1b204e5316aed74c4fd29f29c7caa0791aa7e715d89ced81c01babf3562bd65c", func := "example.com/barua/barua/zzlaws_internal_store_b1.FnKeepScriptKeepsEveryEarlierLine", spec := "fnKeepScriptKeepsEveryEarlierLine", make := .lifted ["publicsums"], apart := false }
def FnKeepScriptKeepsEveryEarlierLineSaid : Prop := fnKeepScriptKeepsEveryEarlierLineRow.holds Trym.pinned (OpenSpec.ofChange fnKeepScriptKeepsEveryEarlierLineSpec)

/-- ITS FALSE NEIGHBOUR: 'it returns false'. Refute it at one input. -/
def fnKeepScriptKeepsEveryEarlierLineWrong : ChangeSpec := { name := "fnKeepScriptKeepsEveryEarlierLine", fn := fun _ => fun
  | [d1, d2] => { results := [.lit (.bool false)], args := [d1, d2] }
  | _ => none }
def FnKeepScriptKeepsEveryEarlierLineWrongFalsely : Prop := fnKeepScriptKeepsEveryEarlierLineRow.holds Trym.pinned (OpenSpec.ofChange fnKeepScriptKeepsEveryEarlierLineWrong)

/-- 'zzlaws_internal_store_b1.FnMergeSortedIsSortedPermutation': WHATEVER THE INPUT: true; the input reads as it did. -/
def fnMergeSortedIsSortedPermutationSpec : ChangeSpec := { name := "fnMergeSortedIsSortedPermutation", fn := fun _ => fun
  | [d1, d2] => { results := [.lit (.bool true)], args := [d1, d2] }
  | _ => none }
def fnMergeSortedIsSortedPermutationRow : OpenClaim := { program := "qxb6600024amods", sum := "1b204e5316aed74c4fd29f29c7caa0791aa7e715d89ced81c01babf3562bd65c", func := "example.com/barua/barua/zzlaws_internal_store_b1.FnMergeSortedIsSortedPermutation", spec := "fnMergeSortedIsSortedPermutation", make := .lifted ["publicsums"], apart := false }
def FnMergeSortedIsSortedPermutationSaid : Prop := fnMergeSortedIsSortedPermutationRow.holds Trym.pinned (OpenSpec.ofChange fnMergeSortedIsSortedPermutationSpec)

/-- ITS FALSE NEIGHBOUR: 'it returns false'. Refute it at one input. -/
def fnMergeSortedIsSortedPermutationWrong : ChangeSpec := { name := "fnMergeSortedIsSortedPermutation", fn := fun _ => fun
  | [d1, d2] => { results := [.lit (.bool false)], args := [d1, d2] }
  | _ => none }
def FnMergeSortedIsSortedPermutationWrongFalsely : Prop := fnMergeSortedIsSortedPermutationRow.holds Trym.pinned (OpenSpec.ofChange fnMergeSortedIsSortedPermutationWrong)

/-- 'zzlaws_internal_store_b1.FnMergeSortedCommutes': WHATEVER THE INPUT: true; the input reads as it did. -/
def fnMergeSortedCommutesSpec : ChangeSpec := { name := "fnMergeSortedCommutes", fn := fun _ => fun
  | [d1, d2] => { results := [.lit (.bool true)], args := [d1, d2] }
  | _ => none }
def fnMergeSortedCommutesRow : OpenClaim := { program := "qxb6600024amods", sum := "1b204e5316aed74c4fd29f29c7caa0791aa7e715d89ced81c01babf3562bd65c", func := "example.com/barua/barua/zzlaws_internal_store_b1.FnMergeSortedCommutes", spec := "fnMergeSortedCommutes", make := .lifted ["publicsums"], apart := false }
def FnMergeSortedCommutesSaid : Prop := fnMergeSortedCommutesRow.holds Trym.pinned (OpenSpec.ofChange fnMergeSortedCommutesSpec)

/-- ITS FALSE NEIGHBOUR: 'it returns false'. Refute it at one input. -/
def fnMergeSortedCommutesWrong : ChangeSpec := { name := "fnMergeSortedCommutes", fn := fun _ => fun
  | [d1, d2] => { results := [.lit (.bool false)], args := [d1, d2] }
  | _ => none }
def FnMergeSortedCommutesWrongFalsely : Prop := fnMergeSortedCommutesRow.holds Trym.pinned (OpenSpec.ofChange fnMergeSortedCommutesWrong)

/-- 'zzlaws_internal_store_b1.FnMergeSortedAssociates': WHATEVER THE INPUT: true; the input reads as it did. -/
def fnMergeSortedAssociatesSpec : ChangeSpec := { name := "fnMergeSortedAssociates", fn := fun _ => fun
  | [d1, d2, d3] => { results := [.lit (.bool true)], args := [d1, d2, d3] }
  | _ => none }
def fnMergeSortedAssociatesRow : OpenClaim := { program := "qxb6600024amods", sum := "1b204e5316aed74c4fd29f29c7caa0791aa7e715d89ced81c01babf3562bd65c", func := "example.com/barua/barua/zzlaws_internal_store_b1.FnMergeSortedAssociates", spec := "fnMergeSortedAssociates", make := .lifted ["publicsums"], apart := false }
def FnMergeSortedAssociatesSaid : Prop := fnMergeSortedAssociatesRow.holds Trym.pinned (OpenSpec.ofChange fnMergeSortedAssociatesSpec)

/-- ITS FALSE NEIGHBOUR: 'it returns false'. Refute it at one input. -/
def fnMergeSortedAssociatesWrong : ChangeSpec := { name := "fnMergeSortedAssociates", fn := fun _ => fun
  | [d1, d2, d3] => { results := [.lit (.bool false)], args := [d1, d2, d3] }
  | _ => none }
def FnMergeSortedAssociatesWrongFalsely : Prop := fnMergeSortedAssociatesRow.holds Trym.pinned (OpenSpec.ofChange fnMergeSortedAssociatesWrong)

end Rows
end Go.Proofs.Qxb6600024aMods
