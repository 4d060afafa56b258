/-
  The plain law of 'cycB1CmpScaled': what the lengths say; what the scale is worth.
-/
import Derived.Test.Qxb6600555aModsDblE
import Derived.Test.Qxb6600555aModsLimY
namespace Go.Proofs.Qxb6600555aMods.Cmp
open Go.RowKit
open Go.Proofs.Qxb6600555aMods.Dbl Go.Proofs.Qxb6600555aMods.Lim
set_option linter.unusedVariables false

theorem sgn_scale (c A B : Nat) (hc : 0 < c) : sgn (A * c) (B * c) = sgn A B := by
  rcases Nat.lt_trichotomy A B with h | h | h
  · rw [sgn_lt h, sgn_lt (Nat.mul_lt_mul_of_pos_right h hc)]
  · rw [sgn_eq h, sgn_eq (by rw [h])]
  · rw [sgn_gt h, sgn_gt (Nat.mul_lt_mul_of_pos_right h hc)]

theorem bl_less {A B T : Nat} (hA : A ≠ 0) (hB : B ≠ 0) (h : bl A < bl B + T) : A < B * 2 ^ T := by
  obtain ⟨i, e1, l1, u1⟩ := bl_spec A hA
  obtain ⟨j, e2, l2, u2⟩ := bl_spec B hB
  calc A < 2 ^ (i + 1) := u1
    _ ≤ 2 ^ (j + T) := Nat.pow_le_pow_right (by decide) (by omega)
    _ = 2 ^ j * 2 ^ T := Nat.pow_add 2 j T
    _ ≤ B * 2 ^ T := Nat.mul_le_mul_right _ l2
theorem bl_more {A B T : Nat} (hA : A ≠ 0) (hB : B ≠ 0) (h : bl B + T < bl A) : B * 2 ^ T < A := by
  obtain ⟨i, e1, l1, u1⟩ := bl_spec A hA
  obtain ⟨j, e2, l2, u2⟩ := bl_spec B hB
  calc B * 2 ^ T < 2 ^ (j + 1) * 2 ^ T := Nat.mul_lt_mul_of_pos_right u2 (Nat.two_pow_pos T)
    _ = 2 ^ (j + 1 + T) := (Nat.pow_add 2 (j + 1) T).symm
    _ ≤ 2 ^ i := Nat.pow_le_pow_right (by decide) (by omega)
    _ ≤ A := l1
theorem bl_fits {B T i : Nat} (hB : B ≠ 0) (h : bl B + T ≤ i) : B * 2 ^ T < p2 i := by
  obtain ⟨j, e2, l2, u2⟩ := bl_spec B hB
  calc B * 2 ^ T < 2 ^ (j + 1) * 2 ^ T := Nat.mul_lt_mul_of_pos_right u2 (Nat.two_pow_pos T)
    _ = 2 ^ (j + 1 + T) := (Nat.pow_add 2 (j + 1) T).symm
    _ ≤ 2 ^ i := Nat.pow_le_pow_right (by decide) (by omega)

theorem scale_eq {m n d k a b b4 vz mt t u : Nat} (hd : 2 * m - n = d) (hk : n - m = k) (hb4 : 4 * b = b4) (h : mt * p2 1074 * p2 u = vz * p2 t) :
    sgn (a * LX m n) (b * RY m n vz) = sgn (a * d * d * n * (p2 t * p2 t)) (b4 * m * k * mt * mt * (p2 u * p2 u)) := by
  have hq := p2_pos 1074
  have ht := p2_pos t
  rw [← sgn_scale (p2 t * p2 t) _ _ (Nat.mul_pos ht ht), ← sgn_scale (p2 1074 * p2 1074) (a * d * d * n * (p2 t * p2 t)) _ (Nat.mul_pos hq hq)]
  have e1 : a * LX m n * (p2 t * p2 t) = a * d * d * n * (p2 t * p2 t) * (p2 1074 * p2 1074) := by
    unfold LX
    rw [hd]
    generalize p2 1074 = Q
    generalize p2 t = y
    ac_rfl
  have e2 : b * RY m n vz * (p2 t * p2 t) = b4 * m * k * mt * mt * (p2 u * p2 u) * (p2 1074 * p2 1074) := by
    unfold RY
    rw [hk, ← hb4]
    have : b * (4 * vz * vz * m * k) * (p2 t * p2 t) = 4 * b * m * k * (vz * p2 t) * (vz * p2 t) := by
      generalize p2 t = y
      ac_rfl
    rw [this, ← h]
    generalize p2 1074 = Q
    generalize p2 u = y
    ac_rfl
  rw [e1, e2]

theorem scale_pos {m n d k a b b4 vz mt t u E T : Nat} (hd : 2 * m - n = d) (hk : n - m = k) (hb4 : 4 * b = b4) (h : mt * p2 1074 * p2 u = vz * p2 t) (hE : u = t + E) (hT : T = 2 * E) :
    sgn (a * LX m n) (b * RY m n vz) = sgn (a * d * d * n) (b4 * m * k * mt * mt * 2 ^ T) := by
  have ht := p2_pos t
  have e2 : (2 : Nat) ^ T = p2 E * p2 E := by rw [← p2_add, ← Nat.two_mul, ← hT]; rfl
  refine (scale_eq hd hk hb4 h).trans (Eq.trans ?_ (sgn_scale (p2 t * p2 t) _ _ (Nat.mul_pos ht ht)))
  rw [e2, hE, p2_add]
  have e : b4 * m * k * mt * mt * (p2 t * p2 E * (p2 t * p2 E)) = b4 * m * k * mt * mt * (p2 E * p2 E) * (p2 t * p2 t) := by
    generalize b4 * m * k * mt * mt = X
    generalize p2 t = y
    generalize p2 E = v
    ac_rfl
  rw [e]
theorem scale_neg {m n d k a b b4 vz mt t u E T : Nat} (hd : 2 * m - n = d) (hk : n - m = k) (hb4 : 4 * b = b4) (h : mt * p2 1074 * p2 u = vz * p2 t) (hE : t = u + E) (hT : T = 2 * E) :
    sgn (a * LX m n) (b * RY m n vz) = sgn (a * d * d * n * 2 ^ T) (b4 * m * k * mt * mt) := by
  have ht := p2_pos u
  have e2 : (2 : Nat) ^ T = p2 E * p2 E := by rw [← p2_add, ← Nat.two_mul, ← hT]; rfl
  refine (scale_eq hd hk hb4 h).trans (Eq.trans ?_ (sgn_scale (p2 u * p2 u) _ _ (Nat.mul_pos ht ht)))
  rw [e2, hE, p2_add]
  have e : a * d * d * n * (p2 u * p2 E * (p2 u * p2 E)) = a * d * d * n * (p2 E * p2 E) * (p2 u * p2 u) := by
    generalize a * d * d * n = X
    generalize p2 u = y
    generalize p2 E = v
    ac_rfl
  rw [e]

theorem scale_one {m n a b vz : Nat} (ha : 1 ≤ a) (hn : 1 ≤ n) (h2 : n < 2 * m) (h : vz = 0 ∨ m = n) : sgn (a * LX m n) (b * RY m n vz) = 1 := by
  apply sgn_gt
  have e : b * RY m n vz = 0 := by
    unfold RY
    rcases h with rfl | rfl <;> simp
  rw [e]
  have hq := p2_pos 1074
  unfold LX
  have hd : 0 < 2 * m - n := by omega
  exact Nat.mul_pos ha (Nat.mul_pos (Nat.mul_pos (Nat.mul_pos (Nat.mul_pos hd hd) hn) hq) hq)

end Go.Proofs.Qxb6600555aMods.Cmp
