/-
  The walks of the functions on limbs.
-/
import Derived.Test.Qxb6600555aModsRows
import Derived.Test.Qxb6600555aModsLimA
import Derived.WalkKit
import Derived.WalkSpells
import Derived.WalkLawsBesides
import Derived.Laws.Bits64
import Derived.Laws.Bits64b
import Derived.Laws.BitsAllLaws
import Derived.Deep.QuietTactic
import Derived.BigQuiet
import Derived.Deep.LoopGhost
import Derived.Deep.DeepCutAuto
import Derived.Deep.CutRange
import Derived.Deep.CutBlock
namespace Go.Proofs.Qxb6600555aMods.Lim
open Go.RowKit
set_option linter.unusedVariables false

set_option maxHeartbeats 400000 in
theorem mul64_raw (a b : Nat) (w : World) :
    Calls Trym.prog 23 #[.int .u64 a, .int .u64 b] w fun e w' => e = .returned (.tuple #[.int .u64 (hiE a b), .int .u64 (loE a b)]) ∧ w = w' := by
  go_enter Trym.func23, Trym.ntmps23
  go_wp2
  go_ret2
  exact ⟨rfl, rfl⟩

theorem mul64_any (a b : Nat) (w : World) (ha : a < 18446744073709551616) (hb : b < 18446744073709551616) :
    Calls Trym.prog 23 #[.int .u64 a, .int .u64 b] w fun e w' => e = .returned (.tuple #[.int .u64 (a * b / 18446744073709551616 : Nat), .int .u64 (a * b % 18446744073709551616 : Nat)]) ∧ w = w' := by
  rw [← hi_eq a b ha hb, ← lo_eq a b ha hb]
  exact mul64_raw a b w

/-! ### The length in bits of a word -/
def bl (v : Nat) : Nat := if v = 0 then 0 else v.log2 + 1
theorem bl_half (v : Nat) (h : v ≠ 0) : bl v = bl (v / 2) + 1 := by
  unfold bl
  rw [if_neg h]
  by_cases h2 : v / 2 = 0
  · rw [if_pos h2]
    have : v = 1 := by omega
    subst this; rfl
  · rw [if_neg h2]
    congr 1
    rw [Nat.log2_def, if_pos (by omega)]
theorem bl_le (v : Nat) (h : v < 18446744073709551616) : bl v ≤ 64 := by
  unfold bl
  split
  · omega
  · rename_i h0
    have b : 2 ^ v.log2 < 2 ^ 64 := Nat.lt_of_le_of_lt (Nat.log2_self_le h0) h
    have := (Nat.pow_lt_pow_iff_right (a := 2) (by omega)).1 b
    omega

set_option maxHeartbeats 400000 in
theorem bitlen64_any (v : Nat) (w : World) (hv : v < 18446744073709551616) :
    Calls Trym.prog 24 #[.int .u64 v] w fun e w' => e = .returned (.int .i64 (bl v : Nat)) ∧ w = w' := by
  have hB := bl_le v hv
  have HB : Hid (bl v ≤ 64) := hB
  have HV : Hid (v < 18446744073709551616) := hv
  clear hB hv
  go_enter Trym.func24, Trym.ntmps24
  go_wp2
  go_loopg [0, 3] (bl v) (fun g x n wx => w = wx ∧ ∃ y k : Nat, bl y = g ∧ x = .int .u64 y ∧ n = .int .i64 k ∧ Hid (k + bl y = bl v))
  case atStart => exact ⟨rfl, v, 0, rfl, rfl, rfl, by unfold Hid; omega⟩
  case round =>
    obtain ⟨rfl, y, k, rfl, rfl, rfl, hk⟩ := hrel
    have hk64 : k ≤ 64 := by have := hk.out; have := HB.out; omega
    by_cases hy : y = 0
    · subst hy
      have e0 : bl 0 = 0 := rfl
      have he : k = bl v := by have := hk.out; omega
      have HE : Hid (k = bl v) := he
      clear he hk
      go_wp2
      go_ret
      exact ⟨by rw [← HE.out]; rfl, rfl⟩
    · have hb := bl_half y hy
      have HH : Hid (bl y = bl (y / 2) + 1) := hb
      have hne : ((y : Int) != 0) = true := by simp [hy]
      clear hb
      go_wp2
      go_roundg (bl (y / 2))
      case measure => have := HH.out; omega
      case rel => exact ⟨rfl, y / 2, k + 1, rfl, by go_num, by go_num, by have := HH.out; have := hk.out; unfold Hid; omega⟩

end Go.Proofs.Qxb6600555aMods.Lim
