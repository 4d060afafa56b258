/-
  Plain numbers, no Go: the whole computation of 'confidentInDoubles' in words, and what it comes to.
-/
import Derived.Test.Qxb6600555aModsDblD
namespace Go.Proofs.Qxb6600555aMods.Dbl
open Ieee
set_option linter.unusedVariables false

/-- L and R at one scale: L = (2m-n)^2 n, R = 4 z^2 m (n-m), both times 2^2148. -/
def LX (m n : Nat) : Nat := (2 * m - n) * (2 * m - n) * n * p2 1074 * p2 1074
def RY (m n vz : Nat) : Nat := 4 * vz * vz * m * (n - m)
def TT : Nat := p2 1074 * (p2 53 * p2 53 * p2 53 * p2 53 * p2 53) * p2 40

/-- Every step of the computation. -/
structure Comp (m n z vz D Nf Mf Kf l1 l z4 r1 r2 r t1 t2 : Nat) : Prop where
  eD : floatOfInt .f64 (2 * (m : Int) - (n : Int)) = D
  eN : floatOfInt .f64 (n : Int) = Nf
  eM : floatOfInt .f64 (m : Int) = Mf
  eK : floatOfInt .f64 ((n : Int) - (m : Int)) = Kf
  el1 : double.mul D D = some l1
  el : double.mul l1 Nf = some l
  ez4 : double.mul c4 z = some z4
  er1 : double.mul z4 z = some r1
  er2 : double.mul r1 Mf = some r2
  er : double.mul r2 Kf = some r
  et1 : double.mul r cU = some t1
  et2 : double.mul r cD = some t2
  fl : l < 2047 * 2 ^ 52
  ft1 : t1 < 2047 * 2 ^ 52
  ft2 : t2 < 2047 * 2 ^ 52
  near : Near (V l) (V t1) (V t2) (LX m n) (RY m n vz) TT

theorem int_range {k r : Nat} (h0 : 0 < k) (h1 : k ≤ 2 ^ 30) (hv : V r = k * p2 1074) : p2 1074 ≤ V r ∧ V r ≤ p2 1104 := by
  rw [hv]
  constructor
  · exact Nat.le_mul_of_pos_left _ h0
  · rw [show 1104 = 30 + 1074 by decide, p2_add]
    exact Nat.mul_le_mul_right _ h1

theorem cU_range : p2 1074 ≤ V cU ∧ V cU ≤ p2 1075 := by
  rw [V_cU, show 1074 = 52 + 1022 by decide, show 1075 = 53 + 1022 by decide, p2_add, p2_add]
  exact ⟨Nat.mul_le_mul_right _ (by decide), Nat.mul_le_mul_right _ (by decide)⟩
theorem cD_range : p2 1073 ≤ V cD ∧ V cD ≤ p2 1074 := by
  rw [V_cD, show 1073 = 52 + 1021 by decide, show 1074 = 53 + 1021 by decide, p2_add, p2_add]
  exact ⟨Nat.mul_le_mul_right _ (by decide), Nat.mul_le_mul_right _ (by decide)⟩
theorem c4_range : p2 1076 ≤ V c4 ∧ V c4 ≤ p2 1076 := by
  rw [V_c4, ← p2_add]
  exact ⟨Nat.le_refl _, Nat.le_refl _⟩

/-- The left side. -/
theorem left_side (m n : Nat) (hn : 1 ≤ n) (hn2 : n < 2 ^ 30) (hm : m ≤ n) (h2 : n < 2 * m) :
    ∃ D Nf l1 l, floatOfInt .f64 (2 * (m : Int) - (n : Int)) = D ∧ floatOfInt .f64 (n : Int) = Nf ∧ double.mul D D = some l1 ∧ double.mul l1 Nf = some l ∧ Norm l ∧
      Rnd (p2 1074) (V l1) ((2 * m - n) * p2 1074 * ((2 * m - n) * p2 1074)) ∧ Rnd (p2 1074) (V l) (V l1 * (n * p2 1074)) := by
  obtain ⟨D, eD, nD, vD⟩ := int_num (2 * m - n) (by omega) (by omega)
  obtain ⟨Nf, eN, nN, vN⟩ := int_num n (by omega) (by omega)
  have rD := int_range (by omega) (by omega) vD
  have rN := int_range (by omega) (by omega) vN
  obtain ⟨l1, el1, nl1, R1, a1, b1⟩ := mul_rnd D D 1074 1104 1074 1104 nD nD rD.1 rD.2 rD.1 rD.2 (by decide) (by decide)
  obtain ⟨l, el, nl, R2, a2, b2⟩ := mul_rnd l1 Nf _ _ 1074 1104 nl1 nN a1 b1 rN.1 rN.2 (by decide) (by decide)
  rw [vD] at R1
  rw [vN] at R2
  refine ⟨D, Nf, l1, l, ?_, eN, el1, el, nl, R1, R2⟩
  rw [← eD]
  congr 1
  omega

theorem comp_in (m n z : Nat) (hn : 1 ≤ n) (hn2 : n < 2 ^ 30) (hm : m ≤ n) (h2 : n < 2 * m) (hz : Norm z) (z1 : p2 674 ≤ V z) (z2 : V z ≤ p2 1474) :
    ∃ D Nf Mf Kf l1 l z4 r1 r2 r t1 t2, Comp m n z (V z) D Nf Mf Kf l1 l z4 r1 r2 r t1 t2 := by
  obtain ⟨D, Nf, l1, l, eD, eN, el1, el, nl, R1, R2⟩ := left_side m n hn hn2 hm h2
  obtain ⟨Mf, eM, nM, vM⟩ := int_num m (by omega) (by omega)
  have rM := int_range (by omega) (by omega) vM
  obtain ⟨z4, ez4, nz4, R3, a3, b3⟩ := mul_rnd c4 z 1076 1076 674 1474 N_c4 hz c4_range.1 c4_range.2 z1 z2 (by decide) (by decide)
  obtain ⟨r1, er1, nr1, R4, a4, b4⟩ := mul_rnd z4 z _ _ 674 1474 nz4 hz a3 b3 z1 z2 (by decide) (by decide)
  obtain ⟨r2, er2, nr2, R5, a5, b5⟩ := mul_rnd r1 Mf _ _ 1074 1104 nr1 nM a4 b4 rM.1 rM.2 (by decide) (by decide)
  rw [vM] at R5
  have R3' : Rnd (p2 1074) (V z4) (V z * (4 * p2 1074)) := by rw [← c4_eq, Nat.mul_comm]; exact R3
  by_cases hk : n - m = 0
  · have ek : floatOfInt .f64 ((n : Int) - (m : Int)) = 0 := by
      rw [show ((n : Int) - (m : Int)) = 0 by omega]; exact int_zero
    refine ⟨D, Nf, Mf, 0, l1, l, z4, r1, r2, 0, 0, 0, eD, eN, eM, ek, el1, el, ez4, er1, er2, mul_zero_right r2 nr2.2, mul_zero_left cU N_cU.2, mul_zero_left cD N_cD.2, nl.2, by decide, by decide, ?_⟩
    have hy : RY m n (V z) = 0 := by unfold RY; rw [hk, Nat.mul_zero]
    rw [hy, V_zero]
    exact near_zero (p2_pos _) (by omega) (by omega) R1 R2
  · obtain ⟨Kf, eK, nK, vK⟩ := int_num (n - m) (by omega) (by omega)
    have rK := int_range (by omega) (by omega) vK
    obtain ⟨r, er, nr, R6, a6, b6⟩ := mul_rnd r2 Kf _ _ 1074 1104 nr2 nK a5 b5 rK.1 rK.2 (by decide) (by decide)
    rw [vK] at R6
    obtain ⟨t1, et1, nt1, R7, _, _⟩ := mul_rnd r cU _ _ 1074 1075 nr N_cU a6 b6 cU_range.1 cU_range.2 (by decide) (by decide)
    obtain ⟨t2, et2, nt2, R8, _, _⟩ := mul_rnd r cD _ _ 1073 1074 nr N_cD a6 b6 cD_range.1 cD_range.2 (by decide) (by decide)
    have ek : floatOfInt .f64 ((n : Int) - (m : Int)) = Kf := by
      rw [← eK]; congr 1; omega
    exact ⟨D, Nf, Mf, Kf, l1, l, z4, r1, r2, r, t1, t2, eD, eN, eM, ek, el1, el, ez4, er1, er2, er, et1, et2, nl.2, nt1.2, nt2.2,
      near_of (p2_pos _) (by omega) (by omega) cu_eq cd_eq R1 R2 R3' R4 R5 R6 R7 R8⟩

theorem comp_zero (m n z : Nat) (hn : 1 ≤ n) (hn2 : n < 2 ^ 30) (hm : m ≤ n) (h2 : n < 2 * m) (hz : z = 0 ∨ z = 2 ^ 63) :
    ∃ D Nf Mf Kf l1 l z4 r1 r2 r t1 t2, Comp m n z 0 D Nf Mf Kf l1 l z4 r1 r2 r t1 t2 := by
  obtain ⟨D, Nf, l1, l, eD, eN, el1, el, nl, R1, R2⟩ := left_side m n hn hn2 hm h2
  obtain ⟨Mf, eM, nM, vM⟩ := int_num m (by omega) (by omega)
  obtain ⟨Kf, eK, fK⟩ : ∃ Kf, floatOfInt .f64 ((n : Int) - (m : Int)) = Kf ∧ Kf < 2047 * 2 ^ 52 := by
    by_cases hk : n - m = 0
    · exact ⟨0, by rw [show ((n : Int) - (m : Int)) = 0 by omega]; exact int_zero, by decide⟩
    · obtain ⟨Kf, eK, nK, vK⟩ := int_num (n - m) (by omega) (by omega)
      exact ⟨Kf, by rw [← eK]; congr 1; omega, nK.2⟩
  have hy : RY m n 0 = 0 := by unfold RY; simp
  have hnear : Near (V l) (V 0) (V 0) (LX m n) (RY m n 0) TT := by
    rw [hy, V_zero]
    exact near_zero (p2_pos _) (by omega) (by omega) R1 R2
  rcases hz with rfl | rfl
  · exact ⟨D, Nf, Mf, Kf, l1, l, 0, 0, 0, 0, 0, 0, eD, eN, eM, eK, el1, el, mul_zero_right c4 N_c4.2, mul_zero_left 0 (by decide), mul_zero_left Mf nM.2, mul_zero_left Kf fK, mul_zero_left cU N_cU.2, mul_zero_left cD N_cD.2, nl.2, by decide, by decide, hnear⟩
  · exact ⟨D, Nf, Mf, Kf, l1, l, 2 ^ 63, 0, 0, 0, 0, 0, eD, eN, eM, eK, el1, el, mul_c4_nz, mul_nz_nz, mul_zero_left Mf nM.2, mul_zero_left Kf fK, mul_zero_left cU N_cU.2, mul_zero_left cD N_cD.2, nl.2, by decide, by decide, hnear⟩

end Go.Proofs.Qxb6600555aMods.Dbl
