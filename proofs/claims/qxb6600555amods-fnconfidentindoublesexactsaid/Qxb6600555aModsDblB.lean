/-
  Doubles as whole numbers, no Go: the constants, zeros, integers as doubles, the half, the whole number of a double.
-/
import Derived.Test.Qxb6600555aModsDblA
import Derived.Laws.FloatArith
namespace Go.Proofs.Qxb6600555aMods.Dbl
open Ieee
set_option linter.unusedVariables false

theorem V_of (r m q : Nat) (h0 : 2 ^ 52 ≤ r) (h1 : 2 ^ 52 + r % 2 ^ 52 = m) (h2 : r / 2 ^ 52 - 1 = q) : V r = m * p2 q := by
  unfold V p2
  rw [if_neg (by omega), h1, h2]

/-- 4; 2; 1 and 2^-40; 1 less 2^-40; 2^-400; 2^400; 2^52; 2^53. -/
def c4 : Nat := 4616189618054758400
def c2 : Nat := 4611686018427387904
def cU : Nat := 4607182418800021504
def cD : Nat := 4607182418800009216
def cLo : Nat := 2805742567851819008
def cHi : Nat := 6408622269748215808
def c52 : Nat := 4841369599423283200
def c53 : Nat := 4845873199050653696

theorem V_c4 : V c4 = p2 52 * p2 1024 := V_of _ _ _ (by decide) (by decide) (by decide)
theorem V_c2 : V c2 = p2 52 * p2 1023 := V_of _ _ _ (by decide) (by decide) (by decide)
theorem V_cU : V cU = (p2 52 + p2 12) * p2 1022 := V_of _ _ _ (by decide) (by decide) (by decide)
theorem V_cD : V cD = (p2 53 - p2 13) * p2 1021 := V_of _ _ _ (by decide) (by decide) (by decide)
theorem V_cLo : V cLo = p2 52 * p2 622 := V_of _ _ _ (by decide) (by decide) (by decide)
theorem V_cHi : V cHi = p2 52 * p2 1422 := V_of _ _ _ (by decide) (by decide) (by decide)
theorem V_c52 : V c52 = p2 52 * p2 1074 := V_of _ _ _ (by decide) (by decide) (by decide)
theorem V_c53 : V c53 = p2 52 * p2 1075 := V_of _ _ _ (by decide) (by decide) (by decide)
theorem N_c4 : Norm c4 := ⟨by decide, by decide⟩
theorem N_c2 : Norm c2 := ⟨by decide, by decide⟩
theorem N_cU : Norm cU := ⟨by decide, by decide⟩
theorem N_cD : Norm cD := ⟨by decide, by decide⟩
theorem N_cLo : Norm cLo := ⟨by decide, by decide⟩
theorem N_cHi : Norm cHi := ⟨by decide, by decide⟩
theorem N_c52 : Norm c52 := ⟨by decide, by decide⟩
theorem N_c53 : Norm c53 := ⟨by decide, by decide⟩

theorem V_zero : V 0 = 0 := by decide

/-! ### Zeros -/
theorem read_zero : double.read 0 = .number false 0 (-1074) := by decide
theorem mul_zero_right (x : Nat) (hx : x < 2047 * 2 ^ 52) : double.mul x 0 = some 0 := by
  obtain ⟨m, i, rx, _⟩ := read_num x hx
  unfold Format.mul
  rw [rx, read_zero]
  simp [Datum.product, Format.write, Format.nearest, Format.word]
theorem mul_zero_left (x : Nat) (hx : x < 2047 * 2 ^ 52) : double.mul 0 x = some 0 := by
  obtain ⟨m, i, rx, _⟩ := read_num x hx
  unfold Format.mul
  rw [rx, read_zero]
  simp [Datum.product, Format.write, Format.nearest, Format.word]
theorem mul_c4_nz : double.mul c4 (2 ^ 63) = some (2 ^ 63) := by decide
theorem mul_nz_nz : double.mul (2 ^ 63) (2 ^ 63) = some 0 := by decide

/-! ### Integers -/
theorem int_num (n : Nat) (h0 : 0 < n) (h1 : n < 2 ^ 53) : ∃ r, floatOfInt .f64 (n : Int) = r ∧ Norm r ∧ V r = n * p2 1074 := by
  have hl : n.log2 ≤ 52 := by
    have b : 2 ^ n.log2 < 2 ^ 53 := Nat.lt_of_le_of_lt (Nat.log2_self_le (by omega)) h1
    have := (Nat.pow_lt_pow_iff_right (a := 2) (by omega)).1 b
    omega
  obtain ⟨r, hr, hn, _, _, he⟩ := nearest_num n 1074 h0 (by omega) (by omega)
  refine ⟨r, ?_, hn, he ?_⟩
  · rw [← hr]
    unfold floatOfInt FloatKind.nearest FloatKind.encode
    have e1 : decide ((n : Int) < 0) = false := decide_eq_false (by omega)
    rw [e1, Int.natAbs_natCast]
    rfl
  · rw [show n.log2 - 52 = 0 by omega, Nat.pow_zero]
    exact Nat.mod_one _
theorem int_zero : floatOfInt .f64 0 = 0 := by decide

/-! ### The half -/
theorem log2_of (m : Nat) (k : Nat) (h1 : 2 ^ k ≤ m) (h2 : m < 2 ^ (k + 1)) : m.log2 = k := by
  have hm : m ≠ 0 := by have := Nat.two_pow_pos k; omega
  have a := Nat.log2_self_le hm
  have b : m < 2 ^ (m.log2 + 1) := Nat.lt_log2_self
  have c1 := (Nat.pow_lt_pow_iff_right (a := 2) (by omega)).1 (Nat.lt_of_le_of_lt h1 b)
  have c2 := (Nat.pow_lt_pow_iff_right (a := 2) (by omega)).1 (Nat.lt_of_le_of_lt a h2)
  omega

theorem read_c2 : double.read c2 = .number false (2 ^ 52) (-51) := by decide

theorem div_two (x : Nat) (hx : Norm x) (hq : 5 ≤ x / 2 ^ 52) (hq2 : x / 2 ^ 52 ≤ 1900) : ∃ r, double.div x c2 = some r ∧ Norm r ∧ V r * 2 = V x := by
  obtain ⟨m, i, rx, vx, nx⟩ := read_num x hx.2
  obtain ⟨a1, a2, a3⟩ := nx hx.1
  have hl : m.log2 = 52 := log2_of m 52 a1 a2
  have hl8 : (8 * m).log2 = 55 := log2_of (8 * m) 55 (by omega) (by omega)
  obtain ⟨q, hq⟩ : ∃ q, i = q + 4 := ⟨i - 4, by omega⟩
  obtain ⟨r, hr, hn, _, _, he⟩ := nearest_num (8 * m) q (by omega) (by omega) (by omega)
  refine ⟨r, ?_, hn, ?_⟩
  · unfold Format.div
    rw [rx, read_c2]
    have hmz : (2 ^ 52 : Nat) ≠ 0 := by decide
    have hl2 : (2 ^ 52 : Nat).log2 = 52 := by decide
    simp only [Datum.quotient, hmz, if_false, hl, hl2]
    have hf : double.fractionBits + 2 + 52 - 52 = 54 := by decide
    rw [hf, Nat.shiftLeft_eq]
    have d1 : m * 2 ^ 54 / 2 ^ 52 = m * 4 := by omega
    have d2 : m * 2 ^ 54 % 2 ^ 52 = 0 := by omega
    rw [d1, d2]
    have e1 : 2 * (m * 4) + (((0 : Nat) != 0) : Bool).toNat = 8 * m := by simp; omega
    rw [e1]
    have e2 : ((i : Int) - 1074 - -51 - ((54 : Nat) : Int) - 1) = (q : Int) - 1074 := by omega
    rw [e2]
    simp only [Option.map_some, Format.write]
    rw [← hr]
    rfl
  · have h8 : V r = 8 * m * 2 ^ q := he (by rw [hl8]; omega)
    have hx2 : V x = m * (2 ^ q * 2 ^ 4) := by rw [← vx, hq, Nat.pow_add]
    rw [h8, hx2]
    generalize 2 ^ q = Q
    rw [Nat.mul_assoc 8 m Q, ← Nat.mul_assoc m Q]
    generalize m * Q = mQ
    omega

/-! ### The whole number of a double between 2^52 and 2^53 -/
theorem place_of (r : Nat) (h : Norm r) (h1 : V c52 ≤ V r) (h2 : V r < V c53) : ∃ m, double.read r = .number false m 0 ∧ V r = m * p2 1074 ∧ 2 ^ 52 ≤ m ∧ m < 2 ^ 53 := by
  obtain ⟨m, i, rx, vx, nx⟩ := read_num r h.2
  obtain ⟨a1, a2, a3⟩ := nx h.1
  have vx' : m * p2 i = V r := vx
  rw [V_c52, ← vx', ← p2_add] at h1
  rw [V_c53, ← vx', ← p2_add] at h2
  have u1 : 52 + 1074 < 53 + i := by
    have h3 : m * p2 i < p2 53 * p2 i := Nat.mul_lt_mul_of_pos_right a2 (p2_pos _)
    rw [← p2_add] at h3
    exact p2_lt.1 (Nat.lt_of_le_of_lt h1 h3)
  have u2 : 52 + i < 52 + 1075 := by
    have h3 : p2 52 * p2 i ≤ m * p2 i := Nat.mul_le_mul_right _ a1
    rw [← p2_add] at h3
    exact p2_lt.1 (Nat.lt_of_le_of_lt h3 h2)
  obtain rfl : i = 1074 := by omega
  exact ⟨m, rx, vx'.symm, a1, a2⟩

theorem toInt_of (r m : Nat) (h : double.read r = .number false m 0) (hm : m < 2 ^ 53) : floatToIntVal .f64 r .u64 = some (m : Int) := by
  unfold floatToIntVal FloatKind.decode
  have e : FloatKind.f64.format.read r = .number false m 0 := h
  rw [e]
  have e2 : (Datum.number false m 0).toInt .zero = some (m : Int) := by
    simp [Datum.toInt, Datum.integral, Toward.cut, signed]
  rw [e2]
  have h1 : IntKind.u64.min = 0 := by decide
  have h2 : IntKind.u64.max = 18446744073709551615 := by decide
  simp only [h1, h2]
  rw [if_pos ⟨by omega, by omega⟩]

end Go.Proofs.Qxb6600555aMods.Dbl
