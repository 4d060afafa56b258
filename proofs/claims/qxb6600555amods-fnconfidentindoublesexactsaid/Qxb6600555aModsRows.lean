/-
  No cell of these rows narrows 'for every input' (looked for: loops, veiled, ifaces, maps, wideKeys, modest, calm, conditions, laid).
  DERIVED. THE GIVEN ROWS OF THIS SEAT. 6 by the template 'for every input the law returns true; each argument reads behind the call as it read before'; 0 by the template 'total and deterministic' (their statements: Qxb6600555aModsTotals.lean).
  GIVEN WITH THE SEED: the statements are not yours to turn. If you find one false, say at which input.
  Laid BY PROGRAM, IN A SANDBOX (cutbox-rows.mjs): the forced cells as the released guide's own fill.sh prints them over the translation d3c2a8927a2f6d50… (all of the seat's roots in one cut). By AI agents, Wed Nov 11 2026. No macro, syntax, notation, axiom, sorry.
-/
import Derived.Test.Qxb6600555aModsChecked
import GoSem.Claim
import GoSem.ClaimJoined
import GoSem.ClaimMapViews
import Derived.JoinedTies
import Derived.KernelRfl
namespace Go.Proofs.Qxb6600555aMods
/- THE CELL 'sum', in the pinned program and in every row, IS THE sha256 OF THE DUMP (.gsa) THAT Qxb6600555aModsProg.lean LOADS. Nothing in Lean hashes anything: it is a label: what it is worth is what the hold of that sum in a sandbox is worth. -/
noncomputable def Trym.pinned : Pinned := { name := "qxb6600555amods", sum := "d3c2a8927a2f6d5011ce0298db87728e905dc518c3aa703a275a09cf01ac703c", checked := Trym.checked }
namespace Rows
def none {H : Type} : Left H := { results := [], args := [] }

/-- 'zzlaws_internal_cycle_b1.FnWordBitModel': WHATEVER THE INPUT: true; the input reads as it did. -/
def fnWordBitModelSpec : ChangeSpec := { name := "fnWordBitModel", fn := fun _ => fun
  | [d1, d2] => { results := [.lit (.bool true)], args := [d1, d2] }
  | _ => none }
def fnWordBitModelRow : OpenClaim := { program := "qxb6600555amods", sum := "d3c2a8927a2f6d5011ce0298db87728e905dc518c3aa703a275a09cf01ac703c", func := "example.com/tallyweave/tallyweave/zzlaws_internal_cycle_b1.FnWordBitModel", spec := "fnWordBitModel", make := .lifted ["publicsums"], apart := false }
def FnWordBitModelSaid : Prop := fnWordBitModelRow.holds Trym.pinned (OpenSpec.ofChange fnWordBitModelSpec)

/-- ITS FALSE NEIGHBOUR: 'it returns false'. Refute it at one input. -/
def fnWordBitModelWrong : ChangeSpec := { name := "fnWordBitModel", fn := fun _ => fun
  | [d1, d2] => { results := [.lit (.bool false)], args := [d1, d2] }
  | _ => none }
def FnWordBitModelWrongFalsely : Prop := fnWordBitModelRow.holds Trym.pinned (OpenSpec.ofChange fnWordBitModelWrong)

/-- 'zzlaws_internal_cycle_b1.FnWordShift': WHATEVER THE INPUT: true; the input reads as it did. -/
def fnWordShiftSpec : ChangeSpec := { name := "fnWordShift", fn := fun _ => fun
  | [d1, d2] => { results := [.lit (.bool true)], args := [d1, d2] }
  | _ => none }
def fnWordShiftRow : OpenClaim := { program := "qxb6600555amods", sum := "d3c2a8927a2f6d5011ce0298db87728e905dc518c3aa703a275a09cf01ac703c", func := "example.com/tallyweave/tallyweave/zzlaws_internal_cycle_b1.FnWordShift", spec := "fnWordShift", make := .lifted ["publicsums"], apart := false }
def FnWordShiftSaid : Prop := fnWordShiftRow.holds Trym.pinned (OpenSpec.ofChange fnWordShiftSpec)

/-- ITS FALSE NEIGHBOUR: 'it returns false'. Refute it at one input. -/
def fnWordShiftWrong : ChangeSpec := { name := "fnWordShift", fn := fun _ => fun
  | [d1, d2] => { results := [.lit (.bool false)], args := [d1, d2] }
  | _ => none }
def FnWordShiftWrongFalsely : Prop := fnWordShiftRow.holds Trym.pinned (OpenSpec.ofChange fnWordShiftWrong)

/-- 'zzlaws_internal_cycle_b1.FnWordPrefix': WHATEVER THE INPUT: true; the input reads as it did. -/
def fnWordPrefixSpec : ChangeSpec := { name := "fnWordPrefix", fn := fun _ => fun
  | [d1, d2, d3] => { results := [.lit (.bool true)], args := [d1, d2, d3] }
  | _ => none }
def fnWordPrefixRow : OpenClaim := { program := "qxb6600555amods", sum := "d3c2a8927a2f6d5011ce0298db87728e905dc518c3aa703a275a09cf01ac703c", func := "example.com/tallyweave/tallyweave/zzlaws_internal_cycle_b1.FnWordPrefix", spec := "fnWordPrefix", make := .lifted ["publicsums"], apart := false }
def FnWordPrefixSaid : Prop := fnWordPrefixRow.holds Trym.pinned (OpenSpec.ofChange fnWordPrefixSpec)

/-- ITS FALSE NEIGHBOUR: 'it returns false'. Refute it at one input. -/
def fnWordPrefixWrong : ChangeSpec := { name := "fnWordPrefix", fn := fun _ => fun
  | [d1, d2, d3] => { results := [.lit (.bool false)], args := [d1, d2, d3] }
  | _ => none }
def FnWordPrefixWrongFalsely : Prop := fnWordPrefixRow.holds Trym.pinned (OpenSpec.ofChange fnWordPrefixWrong)

/-- 'zzlaws_internal_cycle_b1.FnConfidentInDoublesExact': WHATEVER THE INPUT: true; the input reads as it did. -/
def fnConfidentInDoublesExactSpec : ChangeSpec := { name := "fnConfidentInDoublesExact", fn := fun _ => fun
  | [d1, d2, d3] => { results := [.lit (.bool true)], args := [d1, d2, d3] }
  | _ => none }
def fnConfidentInDoublesExactRow : OpenClaim := { program := "qxb6600555amods", sum := "d3c2a8927a2f6d5011ce0298db87728e905dc518c3aa703a275a09cf01ac703c", func := "example.com/tallyweave/tallyweave/zzlaws_internal_cycle_b1.FnConfidentInDoublesExact", spec := "fnConfidentInDoublesExact", make := .lifted ["publicsums"], apart := false }
def FnConfidentInDoublesExactSaid : Prop := fnConfidentInDoublesExactRow.holds Trym.pinned (OpenSpec.ofChange fnConfidentInDoublesExactSpec)

/-- ITS FALSE NEIGHBOUR: 'it returns false'. Refute it at one input. -/
def fnConfidentInDoublesExactWrong : ChangeSpec := { name := "fnConfidentInDoublesExact", fn := fun _ => fun
  | [d1, d2, d3] => { results := [.lit (.bool false)], args := [d1, d2, d3] }
  | _ => none }
def FnConfidentInDoublesExactWrongFalsely : Prop := fnConfidentInDoublesExactRow.holds Trym.pinned (OpenSpec.ofChange fnConfidentInDoublesExactWrong)

/-- 'zzlaws_internal_cycle_b1.FnConfidentInDoublesMonotoneInZ': WHATEVER THE INPUT: true; the input reads as it did. -/
def fnConfidentInDoublesMonotoneInZSpec : ChangeSpec := { name := "fnConfidentInDoublesMonotoneInZ", fn := fun _ => fun
  | [d1, d2, d3, d4] => { results := [.lit (.bool true)], args := [d1, d2, d3, d4] }
  | _ => none }
def fnConfidentInDoublesMonotoneInZRow : OpenClaim := { program := "qxb6600555amods", sum := "d3c2a8927a2f6d5011ce0298db87728e905dc518c3aa703a275a09cf01ac703c", func := "example.com/tallyweave/tallyweave/zzlaws_internal_cycle_b1.FnConfidentInDoublesMonotoneInZ", spec := "fnConfidentInDoublesMonotoneInZ", make := .lifted ["publicsums"], apart := false }
def FnConfidentInDoublesMonotoneInZSaid : Prop := fnConfidentInDoublesMonotoneInZRow.holds Trym.pinned (OpenSpec.ofChange fnConfidentInDoublesMonotoneInZSpec)

/-- ITS FALSE NEIGHBOUR: 'it returns false'. Refute it at one input. -/
def fnConfidentInDoublesMonotoneInZWrong : ChangeSpec := { name := "fnConfidentInDoublesMonotoneInZ", fn := fun _ => fun
  | [d1, d2, d3, d4] => { results := [.lit (.bool false)], args := [d1, d2, d3, d4] }
  | _ => none }
def FnConfidentInDoublesMonotoneInZWrongFalsely : Prop := fnConfidentInDoublesMonotoneInZRow.holds Trym.pinned (OpenSpec.ofChange fnConfidentInDoublesMonotoneInZWrong)

/-- 'zzlaws_internal_cycle_b1.FnConfidentInDoublesMoreVotes': WHATEVER THE INPUT: true; the input reads as it did. -/
def fnConfidentInDoublesMoreVotesSpec : ChangeSpec := { name := "fnConfidentInDoublesMoreVotes", fn := fun _ => fun
  | [d1, d2, d3] => { results := [.lit (.bool true)], args := [d1, d2, d3] }
  | _ => none }
def fnConfidentInDoublesMoreVotesRow : OpenClaim := { program := "qxb6600555amods", sum := "d3c2a8927a2f6d5011ce0298db87728e905dc518c3aa703a275a09cf01ac703c", func := "example.com/tallyweave/tallyweave/zzlaws_internal_cycle_b1.FnConfidentInDoublesMoreVotes", spec := "fnConfidentInDoublesMoreVotes", make := .lifted ["publicsums"], apart := false }
def FnConfidentInDoublesMoreVotesSaid : Prop := fnConfidentInDoublesMoreVotesRow.holds Trym.pinned (OpenSpec.ofChange fnConfidentInDoublesMoreVotesSpec)

/-- ITS FALSE NEIGHBOUR: 'it returns false'. Refute it at one input. -/
def fnConfidentInDoublesMoreVotesWrong : ChangeSpec := { name := "fnConfidentInDoublesMoreVotes", fn := fun _ => fun
  | [d1, d2, d3] => { results := [.lit (.bool false)], args := [d1, d2, d3] }
  | _ => none }
def FnConfidentInDoublesMoreVotesWrongFalsely : Prop := fnConfidentInDoublesMoreVotesRow.holds Trym.pinned (OpenSpec.ofChange fnConfidentInDoublesMoreVotesWrong)

end Rows
end Go.Proofs.Qxb6600555aMods
