/-
  No cell of these rows narrows 'for every input' (looked for: loops, veiled, ifaces, maps, wideKeys, modest, calm, conditions, laid).
  DERIVED. THE GIVEN ROWS OF THIS SEAT. 5 by the template 'for every input the law returns true; each argument reads behind the call as it read before'; 0 by the template 'total and deterministic' (their statements: Qxb6600201aModsTotals.lean).
  GIVEN WITH THE SEED: the statements are not yours to turn. If you find one false, say at which input.
  Laid BY PROGRAM, IN A SANDBOX (cutbox-rows.mjs): the forced cells as the released guide's own fill.sh prints them over the translation 205b505c4d3f28a1… (all of the seat's roots in one cut). By AI agents, Wed Nov 11 2026. No macro, syntax, notation, axiom, sorry.
-/
import Derived.Test.Qxb6600201aModsChecked
import GoSem.Claim
import GoSem.ClaimJoined
import GoSem.ClaimMapViews
import Derived.JoinedTies
import Derived.KernelRfl
namespace Go.Proofs.Qxb6600201aMods
/- THE CELL 'sum', in the pinned program and in every row, IS THE sha256 OF THE DUMP (.gsa) THAT Qxb6600201aModsProg.lean LOADS. Nothing in Lean hashes anything: it is a label: what it is worth is what the hold of that sum in a sandbox is worth. -/
noncomputable def Trym.pinned : Pinned := { name := "qxb6600201amods", sum := "205b505c4d3f28a146890ac86984fcfd74385e857d12549fe8f95f9721dbac0c", checked := Trym.checked }
namespace Rows
def none {H : Type} : Left H := { results := [], args := [] }

/-- 'zzlaws_api_b1.FnTemplateMetadataDeepCopyIntoExact': WHATEVER THE INPUT: true; the input reads as it did. -/
def fnTemplateMetadataDeepCopyIntoExactSpec : ChangeSpec := { name := "fnTemplateMetadataDeepCopyIntoExact", fn := fun _ => fun
  | [d1, d2, d3, d4, d5, d6, d7, d8, d9, d10] => { results := [.lit (.bool true)], args := [d1, d2, d3, d4, d5, d6, d7, d8, d9, d10] }
  | _ => none }
def fnTemplateMetadataDeepCopyIntoExactRow : OpenClaim := { program := "qxb6600201amods", sum := "205b505c4d3f28a146890ac86984fcfd74385e857d12549fe8f95f9721dbac0c", func := "example.com/keelwright/keelwright/zzlaws_api_b1.FnTemplateMetadataDeepCopyIntoExact", spec := "fnTemplateMetadataDeepCopyIntoExact", make := .lifted ["publicsums"], apart := false }
def FnTemplateMetadataDeepCopyIntoExactSaid : Prop := fnTemplateMetadataDeepCopyIntoExactRow.holds Trym.pinned (OpenSpec.ofChange fnTemplateMetadataDeepCopyIntoExactSpec)

/-- ITS FALSE NEIGHBOUR: 'it returns false'. Refute it at one input. -/
def fnTemplateMetadataDeepCopyIntoExactWrong : ChangeSpec := { name := "fnTemplateMetadataDeepCopyIntoExact", fn := fun _ => fun
  | [d1, d2, d3, d4, d5, d6, d7, d8, d9, d10] => { results := [.lit (.bool false)], args := [d1, d2, d3, d4, d5, d6, d7, d8, d9, d10] }
  | _ => none }
def FnTemplateMetadataDeepCopyIntoExactWrongFalsely : Prop := fnTemplateMetadataDeepCopyIntoExactRow.holds Trym.pinned (OpenSpec.ofChange fnTemplateMetadataDeepCopyIntoExactWrong)

/-- 'zzlaws_api_b1.FnTemplateMetadataDeepCopyIntoIndependent': WHATEVER THE INPUT: true; the input reads as it did. -/
def fnTemplateMetadataDeepCopyIntoIndependentSpec : ChangeSpec := { name := "fnTemplateMetadataDeepCopyIntoIndependent", fn := fun _ => fun
  | [d1, d2, d3, d4, d5, d6] => { results := [.lit (.bool true)], args := [d1, d2, d3, d4, d5, d6] }
  | _ => none }
def fnTemplateMetadataDeepCopyIntoIndependentRow : OpenClaim := { program := "qxb6600201amods", sum := "205b505c4d3f28a146890ac86984fcfd74385e857d12549fe8f95f9721dbac0c", func := "example.com/keelwright/keelwright/zzlaws_api_b1.FnTemplateMetadataDeepCopyIntoIndependent", spec := "fnTemplateMetadataDeepCopyIntoIndependent", make := .lifted ["publicsums"], apart := false }
def FnTemplateMetadataDeepCopyIntoIndependentSaid : Prop := fnTemplateMetadataDeepCopyIntoIndependentRow.holds Trym.pinned (OpenSpec.ofChange fnTemplateMetadataDeepCopyIntoIndependentSpec)

/-- ITS FALSE NEIGHBOUR: 'it returns false'. Refute it at one input. -/
def fnTemplateMetadataDeepCopyIntoIndependentWrong : ChangeSpec := { name := "fnTemplateMetadataDeepCopyIntoIndependent", fn := fun _ => fun
  | [d1, d2, d3, d4, d5, d6] => { results := [.lit (.bool false)], args := [d1, d2, d3, d4, d5, d6] }
  | _ => none }
def FnTemplateMetadataDeepCopyIntoIndependentWrongFalsely : Prop := fnTemplateMetadataDeepCopyIntoIndependentRow.holds Trym.pinned (OpenSpec.ofChange fnTemplateMetadataDeepCopyIntoIndependentWrong)

/-- 'zzlaws_api_b1.FnTemplateMetadataDeepCopyIntoSelfEmpties': WHATEVER THE INPUT: true; the input reads as it did. -/
def fnTemplateMetadataDeepCopyIntoSelfEmptiesSpec : ChangeSpec := { name := "fnTemplateMetadataDeepCopyIntoSelfEmpties", fn := fun _ => fun
  | [d1, d2, d3, d4, d5, d6] => { results := [.lit (.bool true)], args := [d1, d2, d3, d4, d5, d6] }
  | _ => none }
def fnTemplateMetadataDeepCopyIntoSelfEmptiesRow : OpenClaim := { program := "qxb6600201amods", sum := "205b505c4d3f28a146890ac86984fcfd74385e857d12549fe8f95f9721dbac0c", func := "example.com/keelwright/keelwright/zzlaws_api_b1.FnTemplateMetadataDeepCopyIntoSelfEmpties", spec := "fnTemplateMetadataDeepCopyIntoSelfEmpties", make := .lifted ["publicsums"], apart := false }
def FnTemplateMetadataDeepCopyIntoSelfEmptiesSaid : Prop := fnTemplateMetadataDeepCopyIntoSelfEmptiesRow.holds Trym.pinned (OpenSpec.ofChange fnTemplateMetadataDeepCopyIntoSelfEmptiesSpec)

/-- ITS FALSE NEIGHBOUR: 'it returns false'. Refute it at one input. -/
def fnTemplateMetadataDeepCopyIntoSelfEmptiesWrong : ChangeSpec := { name := "fnTemplateMetadataDeepCopyIntoSelfEmpties", fn := fun _ => fun
  | [d1, d2, d3, d4, d5, d6] => { results := [.lit (.bool false)], args := [d1, d2, d3, d4, d5, d6] }
  | _ => none }
def FnTemplateMetadataDeepCopyIntoSelfEmptiesWrongFalsely : Prop := fnTemplateMetadataDeepCopyIntoSelfEmptiesRow.holds Trym.pinned (OpenSpec.ofChange fnTemplateMetadataDeepCopyIntoSelfEmptiesWrong)

/-- 'zzlaws_api_b1.FnBootstrapDeepCopyIntoExact': WHATEVER THE INPUT: true; the input reads as it did. -/
def fnBootstrapDeepCopyIntoExactSpec : ChangeSpec := { name := "fnBootstrapDeepCopyIntoExact", fn := fun _ => fun
  | [d1, d2, d3, d4, d5, d6, d7, d8, d9, d10, d11] => { results := [.lit (.bool true)], args := [d1, d2, d3, d4, d5, d6, d7, d8, d9, d10, d11] }
  | _ => none }
def fnBootstrapDeepCopyIntoExactRow : OpenClaim := { program := "qxb6600201amods", sum := "205b505c4d3f28a146890ac86984fcfd74385e857d12549fe8f95f9721dbac0c", func := "example.com/keelwright/keelwright/zzlaws_api_b1.FnBootstrapDeepCopyIntoExact", spec := "fnBootstrapDeepCopyIntoExact", make := .lifted ["publicsums"], apart := false }
def FnBootstrapDeepCopyIntoExactSaid : Prop := fnBootstrapDeepCopyIntoExactRow.holds Trym.pinned (OpenSpec.ofChange fnBootstrapDeepCopyIntoExactSpec)

/-- ITS FALSE NEIGHBOUR: 'it returns false'. Refute it at one input. -/
def fnBootstrapDeepCopyIntoExactWrong : ChangeSpec := { name := "fnBootstrapDeepCopyIntoExact", fn := fun _ => fun
  | [d1, d2, d3, d4, d5, d6, d7, d8, d9, d10, d11] => { results := [.lit (.bool false)], args := [d1, d2, d3, d4, d5, d6, d7, d8, d9, d10, d11] }
  | _ => none }
def FnBootstrapDeepCopyIntoExactWrongFalsely : Prop := fnBootstrapDeepCopyIntoExactRow.holds Trym.pinned (OpenSpec.ofChange fnBootstrapDeepCopyIntoExactWrong)

/-- 'zzlaws_api_b1.FnBootstrapDeepCopyIntoSelfZeroes': WHATEVER THE INPUT: true; the input reads as it did. -/
def fnBootstrapDeepCopyIntoSelfZeroesSpec : ChangeSpec := { name := "fnBootstrapDeepCopyIntoSelfZeroes", fn := fun _ => fun
  | [d1, d2, d3, d4, d5, d6, d7] => { results := [.lit (.bool true)], args := [d1, d2, d3, d4, d5, d6, d7] }
  | _ => none }
def fnBootstrapDeepCopyIntoSelfZeroesRow : OpenClaim := { program := "qxb6600201amods", sum := "205b505c4d3f28a146890ac86984fcfd74385e857d12549fe8f95f9721dbac0c", func := "example.com/keelwright/keelwright/zzlaws_api_b1.FnBootstrapDeepCopyIntoSelfZeroes", spec := "fnBootstrapDeepCopyIntoSelfZeroes", make := .lifted ["publicsums"], apart := false }
def FnBootstrapDeepCopyIntoSelfZeroesSaid : Prop := fnBootstrapDeepCopyIntoSelfZeroesRow.holds Trym.pinned (OpenSpec.ofChange fnBootstrapDeepCopyIntoSelfZeroesSpec)

/-- ITS FALSE NEIGHBOUR: 'it returns false'. Refute it at one input. -/
def fnBootstrapDeepCopyIntoSelfZeroesWrong : ChangeSpec := { name := "fnBootstrapDeepCopyIntoSelfZeroes", fn := fun _ => fun
  | [d1, d2, d3, d4, d5, d6, d7] => { results := [.lit (.bool false)], args := [d1, d2, d3, d4, d5, d6, d7] }
  | _ => none }
def FnBootstrapDeepCopyIntoSelfZeroesWrongFalsely : Prop := fnBootstrapDeepCopyIntoSelfZeroesRow.holds Trym.pinned (OpenSpec.ofChange fnBootstrapDeepCopyIntoSelfZeroesWrong)

end Rows
end Go.Proofs.Qxb6600201aMods
