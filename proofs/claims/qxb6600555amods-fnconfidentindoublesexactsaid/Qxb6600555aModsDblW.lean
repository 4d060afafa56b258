/-
  The walks over doubles: the parts of z (19).
-/
import Derived.Test.Qxb6600555aModsRows
import Derived.Test.Qxb6600555aModsDblD
import Derived.WalkKit
import Derived.WalkSpells
import Derived.WalkLawsBesides
import Derived.Deep.QuietTactic
import Derived.BigQuiet
import Derived.Deep.LoopGhost
import Derived.Deep.DeepCutAuto
import Derived.Deep.CutRange
import Derived.Deep.CutBlock
namespace Go.Proofs.Qxb6600555aMods.Dbl
open Go.RowKit
set_option linter.unusedVariables false

theorem run_mul {a b r : Nat} (h : Ieee.double.mul a b = some r) (w : World) : (binOp .mul 27 (.float .f64 a) (.float .f64 b)).run Trym.prog w = .ok (.float .f64 r) w := run_float_arith w .mul 27 .f64 a b r h
theorem run_div {a b r : Nat} (h : Ieee.double.div a b = some r) (w : World) : (binOp .quo 27 (.float .f64 a) (.float .f64 b)).run Trym.prog w = .ok (.float .f64 r) w := run_float_arith w .quo 27 .f64 a b r h

theorem rung_bounds {f a b : Nat} (hf : Norm f) (h1 : p2 a ≤ V f) (h2 : V f ≤ p2 b) : a < f / 2 ^ 52 - 1 + 53 ∧ f / 2 ^ 52 - 1 + 52 ≤ b := by
  obtain ⟨m, i, rx, vx, nx⟩ := read_num f hf.2
  obtain ⟨a1, a2, a3⟩ := nx hf.1
  rw [← a3]
  have vx' : m * p2 i = V f := vx
  rw [← vx'] at h1 h2
  constructor
  · have h3 : m * p2 i < p2 53 * p2 i := Nat.mul_lt_mul_of_pos_right a2 (p2_pos _)
    rw [← p2_add] at h3
    have := p2_lt.1 (Nat.lt_of_le_of_lt h1 h3)
    omega
  · have h3 : p2 52 * p2 i ≤ m * p2 i := Nat.mul_le_mul_right _ a1
    rw [← p2_add] at h3
    have := p2_le.1 (Nat.le_trans h3 h2)
    omega

theorem V_c2' : V c2 = 2 * p2 1074 := by
  rw [V_c2, ← p2_add, show 52 + 1023 = 1 + 1074 by decide, p2_add]
  exact Nat.mul_right_cancel_iff (p2_pos 1074) |>.2 (by decide)
theorem V_c52' : V c52 = p2 1126 := by rw [V_c52, ← p2_add]
theorem V_c53' : V c53 = p2 1127 := by rw [V_c53, ← p2_add]
theorem V_cLo' : V cLo = p2 674 := by rw [V_cLo, ← p2_add]
theorem V_cHi' : V cHi = p2 1474 := by rw [V_cHi, ← p2_add]
theorem c53_two : V c53 = V c52 * 2 := by rw [V_c53', V_c52', show 1127 = 1126 + 1 by decide, p2_add]; exact congrArg _ (by decide)

/-- Twice a number. -/
theorem dbl_num (f : Nat) (hf : Norm f) (h1 : p2 674 ≤ V f) (h2 : V f ≤ p2 1126) : ∃ r, Ieee.double.mul f c2 = some r ∧ Norm r ∧ V r = V f * 2 := by
  have hc : V c2 = p2 1075 := by rw [V_c2, ← p2_add]
  have l1 : p2 1180 ≤ V f * V c2 := by
    rw [hc]
    refine Nat.le_trans (p2_le.2 (show 1180 ≤ 674 + 1075 by decide)) ?_
    rw [p2_add]
    exact Nat.mul_le_mul_right _ h1
  have l2 : V f * V c2 < p2 3050 := by
    rw [hc]
    refine Nat.lt_of_le_of_lt ?_ (p2_lt.2 (show 1126 + 1075 < 3050 by decide))
    rw [p2_add]
    exact Nat.mul_le_mul_right _ h2
  obtain ⟨r, hr, hn, _, _, he⟩ := mul_num f c2 hf N_c2 l1 l2
  refine ⟨r, hr, hn, ?_⟩
  have e := he (by decide)
  rw [V_c2', ← Nat.mul_assoc] at e
  exact Nat.eq_of_mul_eq_mul_right (p2_pos 1074) e

/-- The half of a number. -/
theorem half_num (f : Nat) (hf : Norm f) (h1 : p2 1127 ≤ V f) (h2 : V f ≤ p2 1474) : ∃ r, Ieee.double.div f c2 = some r ∧ Norm r ∧ V r * 2 = V f := by
  obtain ⟨b1, b2⟩ := rung_bounds hf h1 h2
  exact div_two f hf (by omega) (by omega)

set_option maxHeartbeats 1000000 in
theorem decompose_any (z : Nat) (w : World) (hz : Norm z) (h1 : V cLo ≤ V z) (h2 : V z ≤ V cHi) :
    Calls Trym.prog 19 #[.float .f64 z] w fun e w' => ∃ m t u : Nat, e = .returned (.tuple #[.int .u64 m, .int .i64 ((u : Int) - (t : Int))]) ∧ w = w' ∧ 2 ^ 52 ≤ m ∧ m < 2 ^ 53 ∧ m * p2 1074 * p2 u = V z * p2 t ∧ t ≤ 460 ∧ u ≤ 400 := by
  rw [V_cLo'] at h1
  rw [V_cHi'] at h2
  have HZ : Hid (Norm z ∧ p2 674 ≤ V z ∧ V z ≤ p2 1474) := ⟨hz, h1, h2⟩
  clear hz h1 h2
  go_enter Trym.func19, Trym.ntmps19
  go_wp2
  go_loopg [4, 5] 460 (fun g vf ve wx => w = wx ∧ ∃ f t : Nat, g = 460 - t ∧ t ≤ 460 ∧ vf = .float .f64 f ∧ ve = .int .i64 (-(t : Int)) ∧ Hid (Norm f ∧ V f = V z * p2 t ∧ (t = 0 ∨ V f < V c53)))
  case atStart => exact ⟨rfl, z, 0, rfl, by omega, rfl, rfl, ⟨HZ.out.1, by show V z = V z * 1; omega, .inl rfl⟩⟩
  case round =>
    obtain ⟨rfl, f, t, rfl, ht, rfl, rfl, hf⟩ := hrel
    by_cases hlt : V f < V c52
    · have ho : FloatKind.f64.format.order f 4841369599423283200 = some .lt := order_lt f c52 hf.out.1.2 N_c52.2 hlt
      have ht452 : t < 452 := by
        have a := hf.out.2.1
        have b : p2 (674 + t) ≤ V f := by rw [a, p2_add]; exact Nat.mul_le_mul_right _ HZ.out.2.1
        rw [V_c52'] at hlt
        have := p2_lt.1 (Nat.lt_of_le_of_lt b hlt)
        omega
      obtain ⟨r, hr, hn, hv⟩ := dbl_num f hf.out.1 (by
        rw [hf.out.2.1]
        exact Nat.le_trans HZ.out.2.1 (Nat.le_mul_of_pos_right _ (p2_pos t))) (by rw [V_c52'] at hlt; exact Nat.le_of_lt hlt)
      have hm := fun w => run_mul hr w
      have hm' : ∀ w, (binOp .mul 27 (.float .f64 f) (.float .f64 4611686018427387904)).run Trym.prog w = .ok (.float .f64 r) w := hm
      have HF : Hid (Norm r ∧ V r = V z * p2 (t + 1) ∧ (t + 1 = 0 ∨ V r < V c53)) := by
        refine ⟨hn, ?_, .inr ?_⟩
        · rw [hv, hf.out.2.1, p2_add, ← Nat.mul_assoc]; exact congrArg _ (by decide)
        · rw [hv, c53_two]; exact Nat.mul_lt_mul_of_pos_right hlt (by decide)
      clear hm hr hn hv hlt hf
      go_wp2
      go_roundg (460 - (t + 1))
      case measure => omega
      case rel => exact ⟨rfl, r, t + 1, rfl, by omega, rfl, by go_num, HF⟩
    · have hge : V c52 ≤ V f := Nat.le_of_not_lt hlt
      have ho : (FloatKind.f64.format.order f 4841369599423283200 == some .lt) = false := by
        rcases Nat.lt_or_ge (V c52) (V f) with h | h
        · have : FloatKind.f64.format.order f 4841369599423283200 = some .gt := order_gt f c52 hf.out.1.2 N_c52.2 h
          rw [this]; rfl
        · have : FloatKind.f64.format.order f 4841369599423283200 = some .eq := order_eq f c52 hf.out.1.2 N_c52.2 (Nat.le_antisymm h hge)
          rw [this]; rfl
      have HG : Hid (V c52 ≤ V f) := hge
      clear hlt hge
      go_wp2
      go_loopg [4, 5] 400 (fun g vf ve wx => w = wx ∧ ∃ f2 u : Nat, g = 400 - u ∧ u ≤ 400 ∧ vf = .float .f64 f2 ∧ ve = .int .i64 ((u : Int) - (t : Int)) ∧ Hid (Norm f2 ∧ V f2 * p2 u = V z * p2 t ∧ V c52 ≤ V f2 ∧ (t = 0 ∨ V f2 < V c53)))
      case atStart => exact ⟨rfl, f, 0, rfl, by omega, rfl, by go_num, ⟨hf.out.1, by rw [hf.out.2.1]; exact Nat.mul_one _, HG.out, hf.out.2.2⟩⟩
      case round =>
        obtain ⟨rfl, f2, u, rfl, hu, rfl, rfl, hf2⟩ := hrel
        clear ho
        by_cases hlt : V f2 < V c53
        · have ho : FloatKind.f64.format.order f2 4845873199050653696 = some .lt := order_lt f2 c53 hf2.out.1.2 N_c53.2 hlt
          obtain ⟨m, hr, hv, m1, m2⟩ := place_of f2 hf2.out.1 hf2.out.2.2.1 hlt
          have hcv : ∀ w, (convert 27 23 (.float .f64 f2)).run Trym.prog w = .ok (.int .u64 m) w := fun w => run_convert_float_int w 27 23 .f64 .u64 f2 m (by rw [Trym.underlying27]; rfl) Trym.underlying23 (toInt_of f2 m hr m2)
          have HF : Hid (m * p2 1074 * p2 u = V z * p2 t) := by unfold Hid; rw [← hv]; exact hf2.out.2.1
          have HM : Hid (2 ^ 52 ≤ m ∧ m < 2 ^ 53) := ⟨m1, m2⟩
          clear hlt hr hv m1 m2 hf2
          go_wp2
          go_ret2
          exact ⟨m, t, u, rfl, rfl, HM.out.1, HM.out.2, HF.out, ht, hu⟩
        · have hge : V c53 ≤ V f2 := Nat.le_of_not_lt hlt
          have ht0 : t = 0 := by
            rcases hf2.out.2.2.2 with h | h
            · exact h
            · exact absurd h hlt
          have hle : V f2 ≤ p2 1474 := by
            have h1 := hf2.out.2.1
            rw [ht0] at h1
            have h2 : V f2 * p2 u = V z := by rw [h1]; exact Nat.mul_one _
            exact Nat.le_trans (Nat.le_mul_of_pos_right _ (p2_pos u)) (by rw [h2]; exact HZ.out.2.2)
          have hu347 : u ≤ 347 := by
            have h1 := hf2.out.2.1
            rw [ht0] at h1
            have h2 : V f2 * p2 u = V z := by rw [h1]; exact Nat.mul_one _
            have h3 : p2 (1127 + u) ≤ p2 1474 := by
              rw [p2_add]
              refine Nat.le_trans (Nat.mul_le_mul_right _ ?_) (by rw [h2]; exact HZ.out.2.2)
              rw [← V_c53']; exact hge
            have := p2_le.1 h3
            omega
          have ho : (FloatKind.f64.format.order f2 4845873199050653696 == some .gt || FloatKind.f64.format.order f2 4845873199050653696 == some .eq) = true := by
            rcases Nat.lt_or_ge (V c53) (V f2) with h | h
            · have : FloatKind.f64.format.order f2 4845873199050653696 = some .gt := order_gt f2 c53 hf2.out.1.2 N_c53.2 h
              rw [this]; rfl
            · have : FloatKind.f64.format.order f2 4845873199050653696 = some .eq := order_eq f2 c53 hf2.out.1.2 N_c53.2 (Nat.le_antisymm h hge)
              rw [this]; rfl
          obtain ⟨r, hr, hn, hv⟩ := half_num f2 hf2.out.1 (by rw [← V_c53']; exact hge) hle
          have hm' : ∀ w, (binOp .quo 27 (.float .f64 f2) (.float .f64 4611686018427387904)).run Trym.prog w = .ok (.float .f64 r) w := fun w => run_div hr w
          have HF : Hid (Norm r ∧ V r * p2 (u + 1) = V z * p2 t ∧ V c52 ≤ V r ∧ (t = 0 ∨ V r < V c53)) := by
            refine ⟨hn, ?_, ?_, .inl ht0⟩
            · rw [← hf2.out.2.1, ← hv, Nat.add_comm u 1, p2_add, ← Nat.mul_assoc]; rfl
            · rw [← hv, c53_two] at hge
              exact Nat.le_of_mul_le_mul_right hge (by decide)
          clear hr hn hv hlt hge hle hf2 ht0
          go_wp2
          go_roundg (400 - (u + 1))
          case measure => omega
          case rel => exact ⟨rfl, r, u + 1, rfl, by omega, rfl, by go_num, HF⟩

end Go.Proofs.Qxb6600555aMods.Dbl
