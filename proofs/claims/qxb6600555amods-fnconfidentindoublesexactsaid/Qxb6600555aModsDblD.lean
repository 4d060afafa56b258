/-
  Plain numbers, no Go: what the roundings can do to L and R.
-/
import Derived.Test.Qxb6600555aModsDblC
namespace Go.Proofs.Qxb6600555aMods.Dbl
open Ieee
set_option linter.unusedVariables false

/-- One rounding: v stands for E, up to one part in 2^53 each way (S: the unit). -/
structure Rnd (S v P : Nat) : Prop where
  hi : v * S * p2 53 ≤ P * (p2 53 + 1)
  lo : P * (p2 53 - 1) ≤ v * S * p2 53

theorem W_facts : p2 53 = 9007199254740992 := by decide

theorem Rnd.le {S v P : Nat} (h : Rnd S v P) : v * S ≤ 2 * P := by
  have h1 := h.hi
  rw [W_facts] at h1
  generalize v * S = a at *
  omega
theorem Rnd.ge {S v P : Nat} (h : Rnd S v P) : P ≤ 2 * (v * S) := by
  have h1 := h.lo
  rw [W_facts] at h1
  generalize v * S = a at *
  omega

theorem shift_hi {v S P a : Nat} (h : v * p2 S ≤ 2 * P) (hP : P ≤ p2 a) (ha : S ≤ a + 1) : v ≤ p2 (a + 1 - S) := by
  have h1 : v * p2 S ≤ p2 (a + 1 - S) * p2 S := by
    rw [← p2_add, show a + 1 - S + S = 1 + a by omega, p2_add]
    exact Nat.le_trans h (Nat.mul_le_mul (by decide) hP)
  exact Nat.le_of_mul_le_mul_right h1 (p2_pos S)
theorem shift_lo {v S P a : Nat} (h : P ≤ 2 * (v * p2 S)) (hP : p2 (a + 1 + S) ≤ P) : p2 a ≤ v := by
  have h1 : 2 * (p2 a * p2 S) ≤ 2 * (v * p2 S) := by
    refine Nat.le_trans ?_ h
    refine Nat.le_trans ?_ hP
    rw [show a + 1 + S = 1 + (a + S) by omega, p2_add 1, p2_add a S]
    exact Nat.le_of_eq rfl
  have h2 : p2 a * p2 S ≤ v * p2 S := by omega
  exact Nat.le_of_mul_le_mul_right h2 (p2_pos S)

/-- A product, rounded, with its bounds. -/
theorem mul_rnd (x y a b a' b' : Nat) (hx : Norm x) (hy : Norm y) (x1 : p2 a ≤ V x) (x2 : V x ≤ p2 b) (y1 : p2 a' ≤ V y) (y2 : V y ≤ p2 b') (hlo : 1180 ≤ a + a') (hhi : b + b' < 3050) :
    ∃ r, double.mul x y = some r ∧ Norm r ∧ Rnd (p2 1074) (V r) (V x * V y) ∧ p2 (a + a' - 1075) ≤ V r ∧ V r ≤ p2 (b + b' - 1073) := by
  have l1 : p2 (a + a') ≤ V x * V y := by rw [p2_add]; exact Nat.mul_le_mul x1 y1
  have l2 : V x * V y ≤ p2 (b + b') := by rw [p2_add]; exact Nat.mul_le_mul x2 y2
  obtain ⟨r, hr, hn, e1, e2, _⟩ := mul_num x y hx hy (Nat.le_trans (p2_le.2 hlo) l1) (Nat.lt_of_le_of_lt l2 (p2_lt.2 hhi))
  have R : Rnd (p2 1074) (V r) (V x * V y) := ⟨e1, e2⟩
  refine ⟨r, hr, hn, R, shift_lo R.ge ?_, ?_⟩
  · rw [show a + a' - 1075 + 1 + 1074 = a + a' by omega]; exact l1
  · have hab : a + a' ≤ b + b' := by
      have := Nat.le_trans l1 l2
      exact p2_le.1 this
    have := shift_hi R.le l2 (by omega)
    rwa [show b + b' + 1 - 1074 = b + b' - 1073 by omega] at this

/-- The factor of L and R: what is compared, at one scale. -/
structure Near (vl vt1 vt2 X Y T : Nat) : Prop where
  tpos : 0 < T
  xpos : 0 < X
  l1 : vl * T ≤ X * ((p2 53 + 1) * (p2 53 + 1) * (p2 53 * p2 53 * p2 53) * p2 40)
  l0 : X * ((p2 53 - 1) * (p2 53 - 1) * (p2 53 * p2 53 * p2 53) * p2 40) ≤ vl * T
  u1 : vt1 * T ≤ Y * ((p2 53 + 1) * (p2 53 + 1) * (p2 53 + 1) * (p2 53 + 1) * (p2 53 + 1) * (p2 40 + 1))
  u0 : Y * ((p2 53 - 1) * (p2 53 - 1) * (p2 53 - 1) * (p2 53 - 1) * (p2 53 - 1) * (p2 40 + 1)) ≤ vt1 * T
  d1 : vt2 * T ≤ Y * ((p2 53 + 1) * (p2 53 + 1) * (p2 53 + 1) * (p2 53 + 1) * (p2 53 + 1) * (p2 40 - 1))
  d0 : Y * ((p2 53 - 1) * (p2 53 - 1) * (p2 53 - 1) * (p2 53 - 1) * (p2 53 - 1) * (p2 40 - 1)) ≤ vt2 * T

theorem num1 : (p2 53 + 1) * (p2 53 + 1) * (p2 53 * p2 53 * p2 53) * p2 40 ≤ (p2 53 - 1) * (p2 53 - 1) * (p2 53 - 1) * (p2 53 - 1) * (p2 53 - 1) * (p2 40 + 1) := by decide
theorem num2 : (p2 53 + 1) * (p2 53 + 1) * (p2 53 + 1) * (p2 53 + 1) * (p2 53 + 1) * (p2 40 - 1) ≤ (p2 53 - 1) * (p2 53 - 1) * (p2 53 * p2 53 * p2 53) * p2 40 := by decide
theorem num3 : 1073741824 * ((p2 53 + 1) * (p2 53 + 1) * (p2 53 + 1) * (p2 53 + 1) * (p2 53 + 1) * (p2 40 + 1)) ≤ 1073741825 * ((p2 53 - 1) * (p2 53 - 1) * (p2 53 * p2 53 * p2 53) * p2 40) := by decide
theorem num4 : 1073741824 * ((p2 53 + 1) * (p2 53 + 1) * (p2 53 * p2 53 * p2 53) * p2 40) ≤ 1073741825 * ((p2 53 - 1) * (p2 53 - 1) * (p2 53 - 1) * (p2 53 - 1) * (p2 53 - 1) * (p2 40 - 1)) := by decide

theorem lt_of_scaled {Y X D B : Nat} (h : Y * D < X * B) (hBD : B ≤ D) : Y < X := by
  have h1 : Y * D < X * D := Nat.lt_of_lt_of_le h (Nat.mul_le_mul_left _ hBD)
  exact Nat.lt_of_mul_lt_mul_right h1

theorem sure_yes {vl vt1 vt2 X Y T : Nat} (h : Near vl vt1 vt2 X Y T) (hlt : vt1 < vl) : Y < X :=
  lt_of_scaled (Nat.lt_of_le_of_lt h.u0 (Nat.lt_of_lt_of_le (Nat.mul_lt_mul_of_pos_right hlt h.tpos) h.l1)) num1

theorem sure_no {vl vt1 vt2 X Y T : Nat} (h : Near vl vt1 vt2 X Y T) (hlt : vl < vt2) : X < Y :=
  lt_of_scaled (Nat.lt_of_le_of_lt h.l0 (Nat.lt_of_lt_of_le (Nat.mul_lt_mul_of_pos_right hlt h.tpos) h.d1)) num2

theorem must_core {vl vt T X Y A D p q : Nat} (l0 : X * A ≤ vl * T) (u1 : vt * T ≤ Y * D) (n3 : q * D ≤ p * A) (hD : 0 < D) (hgt : p * Y < q * X) : vt < vl := by
  rcases Nat.lt_or_ge vt vl with h' | h'
  · exact h'
  · exfalso
    have h1 : vl * T ≤ vt * T := Nat.mul_le_mul_right _ h'
    have h2 := Nat.le_trans l0 (Nat.le_trans h1 u1)
    have e1 : p * (X * A) ≤ p * (Y * D) := Nat.mul_le_mul_left _ h2
    have e2 : p * Y * D < q * X * D := Nat.mul_lt_mul_of_pos_right hgt hD
    have e3 : X * (q * D) ≤ X * (p * A) := Nat.mul_le_mul_left _ n3
    have f1 : p * Y * D = p * (Y * D) := Nat.mul_assoc _ _ _
    have f2 : q * X * D = X * (q * D) := by ac_rfl
    have f3 : X * (p * A) = p * (X * A) := by ac_rfl
    rw [f1, f2] at e2
    rw [f3] at e3
    exact Nat.lt_irrefl _ (Nat.lt_of_lt_of_le e2 (Nat.le_trans e3 e1))

theorem must_core' {vl vt T X Y B E p q : Nat} (l1 : vl * T ≤ X * B) (d0 : Y * E ≤ vt * T) (n4 : q * B ≤ p * E) (hB : 0 < B) (hlt : p * X < q * Y) : vl < vt :=
  must_core (X := Y) (Y := X) d0 l1 n4 hB hlt

theorem must_yes {vl vt1 vt2 X Y T : Nat} (h : Near vl vt1 vt2 X Y T) (hgt : 1073741825 * Y < 1073741824 * X) : vt1 < vl :=
  must_core h.l0 h.u1 num3 (by decide) hgt

theorem must_no {vl vt1 vt2 X Y T : Nat} (h : Near vl vt1 vt2 X Y T) (hlt : 1073741825 * X < 1073741824 * Y) : vl < vt2 :=
  must_core' h.l1 h.d0 num4 (by decide) hlt

/-! ### The chain of roundings -/
theorem drop_hi {v u c S W a : Nat} (hS : 0 < S) (h : v * S * W ≤ u * (c * S) * a) : v * W ≤ u * c * a := by
  refine Nat.le_of_mul_le_mul_right (c := S) ?_ hS
  calc v * W * S = v * S * W := by ac_rfl
    _ ≤ u * (c * S) * a := h
    _ = u * c * a * S := by ac_rfl
theorem drop_lo {v u c S W b : Nat} (hS : 0 < S) (h : u * (c * S) * b ≤ v * S * W) : u * c * b ≤ v * W := by
  refine Nat.le_of_mul_le_mul_right (c := S) ?_ hS
  calc u * c * b * S = u * (c * S) * b := by ac_rfl
    _ ≤ v * S * W := h
    _ = v * W * S := by ac_rfl

theorem l_hi {v1 vl d n S W a C : Nat} (h1 : v1 * W ≤ d * S * d * a) (h2 : vl * W ≤ v1 * n * a) : vl * (S * (W * W * W * W * W) * C) ≤ d * d * n * S * S * (a * a * (W * W * W) * C) := by
  have e : vl * W * W ≤ d * S * d * a * (n * a) := by
    calc vl * W * W ≤ v1 * n * a * W := Nat.mul_le_mul_right _ h2
      _ = v1 * W * (n * a) := by ac_rfl
      _ ≤ d * S * d * a * (n * a) := Nat.mul_le_mul_right _ h1
  calc vl * (S * (W * W * W * W * W) * C) = vl * W * W * (S * (W * W * W) * C) := by ac_rfl
    _ ≤ d * S * d * a * (n * a) * (S * (W * W * W) * C) := Nat.mul_le_mul_right _ e
    _ = d * d * n * S * S * (a * a * (W * W * W) * C) := by ac_rfl
theorem l_lo {v1 vl d n S W b C : Nat} (h1 : d * S * d * b ≤ v1 * W) (h2 : v1 * n * b ≤ vl * W) : d * d * n * S * S * (b * b * (W * W * W) * C) ≤ vl * (S * (W * W * W * W * W) * C) := by
  have e : d * S * d * b * (n * b) ≤ vl * W * W := by
    calc d * S * d * b * (n * b) ≤ v1 * W * (n * b) := Nat.mul_le_mul_right _ h1
      _ = v1 * n * b * W := by ac_rfl
      _ ≤ vl * W * W := Nat.mul_le_mul_right _ h2
  calc d * d * n * S * S * (b * b * (W * W * W) * C) = d * S * d * b * (n * b) * (S * (W * W * W) * C) := by ac_rfl
    _ ≤ vl * W * W * (S * (W * W * W) * C) := Nat.mul_le_mul_right _ e
    _ = vl * (S * (W * W * W * W * W) * C) := by ac_rfl

theorem r_hi {z z4 r1 r2 r t m k S W a C D : Nat} (h3 : z4 * W ≤ z * 4 * a) (h4 : r1 * S * W ≤ z4 * z * a) (h5 : r2 * W ≤ r1 * m * a) (h6 : r * W ≤ r2 * k * a) (h7 : t * W * C ≤ r * D * a) :
    t * (S * (W * W * W * W * W) * C) ≤ 4 * z * z * m * k * (a * a * a * a * a * D) := by
  have e1 : r1 * S * W * W ≤ z * 4 * a * (z * a) := by
    calc r1 * S * W * W ≤ z4 * z * a * W := Nat.mul_le_mul_right _ h4
      _ = z4 * W * (z * a) := by ac_rfl
      _ ≤ z * 4 * a * (z * a) := Nat.mul_le_mul_right _ h3
  have e2 : r2 * S * W * W * W ≤ z * 4 * a * (z * a) * (m * a) := by
    calc r2 * S * W * W * W = r2 * W * (S * W * W) := by ac_rfl
      _ ≤ r1 * m * a * (S * W * W) := Nat.mul_le_mul_right _ h5
      _ = r1 * S * W * W * (m * a) := by ac_rfl
      _ ≤ z * 4 * a * (z * a) * (m * a) := Nat.mul_le_mul_right _ e1
  have e3 : r * S * W * W * W * W ≤ z * 4 * a * (z * a) * (m * a) * (k * a) := by
    calc r * S * W * W * W * W = r * W * (S * W * W * W) := by ac_rfl
      _ ≤ r2 * k * a * (S * W * W * W) := Nat.mul_le_mul_right _ h6
      _ = r2 * S * W * W * W * (k * a) := by ac_rfl
      _ ≤ z * 4 * a * (z * a) * (m * a) * (k * a) := Nat.mul_le_mul_right _ e2
  calc t * (S * (W * W * W * W * W) * C) = t * W * C * (S * W * W * W * W) := by ac_rfl
    _ ≤ r * D * a * (S * W * W * W * W) := Nat.mul_le_mul_right _ h7
    _ = r * S * W * W * W * W * (D * a) := by ac_rfl
    _ ≤ z * 4 * a * (z * a) * (m * a) * (k * a) * (D * a) := Nat.mul_le_mul_right _ e3
    _ = 4 * z * z * m * k * (a * a * a * a * a * D) := by ac_rfl
theorem r_lo {z z4 r1 r2 r t m k S W b C D : Nat} (h3 : z * 4 * b ≤ z4 * W) (h4 : z4 * z * b ≤ r1 * S * W) (h5 : r1 * m * b ≤ r2 * W) (h6 : r2 * k * b ≤ r * W) (h7 : r * D * b ≤ t * W * C) :
    4 * z * z * m * k * (b * b * b * b * b * D) ≤ t * (S * (W * W * W * W * W) * C) := by
  have e1 : z * 4 * b * (z * b) ≤ r1 * S * W * W := by
    calc z * 4 * b * (z * b) ≤ z4 * W * (z * b) := Nat.mul_le_mul_right _ h3
      _ = z4 * z * b * W := by ac_rfl
      _ ≤ r1 * S * W * W := Nat.mul_le_mul_right _ h4
  have e2 : z * 4 * b * (z * b) * (m * b) ≤ r2 * S * W * W * W := by
    calc z * 4 * b * (z * b) * (m * b) ≤ r1 * S * W * W * (m * b) := Nat.mul_le_mul_right _ e1
      _ = r1 * m * b * (S * W * W) := by ac_rfl
      _ ≤ r2 * W * (S * W * W) := Nat.mul_le_mul_right _ h5
      _ = r2 * S * W * W * W := by ac_rfl
  have e3 : z * 4 * b * (z * b) * (m * b) * (k * b) ≤ r * S * W * W * W * W := by
    calc z * 4 * b * (z * b) * (m * b) * (k * b) ≤ r2 * S * W * W * W * (k * b) := Nat.mul_le_mul_right _ e2
      _ = r2 * k * b * (S * W * W * W) := by ac_rfl
      _ ≤ r * W * (S * W * W * W) := Nat.mul_le_mul_right _ h6
      _ = r * S * W * W * W * W := by ac_rfl
  calc 4 * z * z * m * k * (b * b * b * b * b * D) = z * 4 * b * (z * b) * (m * b) * (k * b) * (D * b) := by ac_rfl
    _ ≤ r * S * W * W * W * W * (D * b) := Nat.mul_le_mul_right _ e3
    _ = r * D * b * (S * W * W * W * W) := by ac_rfl
    _ ≤ t * W * C * (S * W * W * W * W) := Nat.mul_le_mul_right _ h7
    _ = t * (S * (W * W * W * W * W) * C) := by ac_rfl

theorem t_hi {t r c S W a C D : Nat} (hS : 0 < S) (hc : c * C = S * D) (h : t * S * W ≤ r * c * a) : t * W * C ≤ r * D * a := by
  refine Nat.le_of_mul_le_mul_right (c := S) ?_ hS
  calc t * W * C * S = t * S * W * C := by ac_rfl
    _ ≤ r * c * a * C := Nat.mul_le_mul_right _ h
    _ = r * (c * C) * a := by ac_rfl
    _ = r * (S * D) * a := by rw [hc]
    _ = r * D * a * S := by ac_rfl
theorem t_lo {t r c S W b C D : Nat} (hS : 0 < S) (hc : c * C = S * D) (h : r * c * b ≤ t * S * W) : r * D * b ≤ t * W * C := by
  refine Nat.le_of_mul_le_mul_right (c := S) ?_ hS
  calc r * D * b * S = r * (S * D) * b := by ac_rfl
    _ = r * (c * C) * b := by rw [hc]
    _ = r * c * b * C := by ac_rfl
    _ ≤ t * S * W * C := Nat.mul_le_mul_right _ h
    _ = t * W * C * S := by ac_rfl

/-- All the roundings of both sides. -/
theorem near_of {S v1 vl z z4 r1 r2 r t1 t2 d n m k cu cd : Nat} (hS : 0 < S) (hd : 0 < d) (hn : 0 < n) (hcu : cu * p2 40 = S * (p2 40 + 1)) (hcd : cd * p2 40 = S * (p2 40 - 1))
    (h1 : Rnd S v1 (d * S * (d * S))) (h2 : Rnd S vl (v1 * (n * S))) (h3 : Rnd S z4 (z * (4 * S))) (h4 : Rnd S r1 (z4 * z)) (h5 : Rnd S r2 (r1 * (m * S))) (h6 : Rnd S r (r2 * (k * S))) (h7 : Rnd S t1 (r * cu)) (h8 : Rnd S t2 (r * cd)) :
    Near vl t1 t2 (d * d * n * S * S) (4 * z * z * m * k) (S * (p2 53 * p2 53 * p2 53 * p2 53 * p2 53) * p2 40) := by
  refine ⟨?_, ?_, ?_, ?_, ?_, ?_, ?_, ?_⟩
  · exact Nat.mul_pos (Nat.mul_pos hS (by decide)) (by decide)
  · exact Nat.mul_pos (Nat.mul_pos (Nat.mul_pos (Nat.mul_pos hd hd) hn) hS) hS
  · exact l_hi (drop_hi hS h1.hi) (drop_hi hS h2.hi)
  · exact l_lo (drop_lo hS h1.lo) (drop_lo hS h2.lo)
  · exact r_hi (drop_hi hS h3.hi) h4.hi (drop_hi hS h5.hi) (drop_hi hS h6.hi) (t_hi hS hcu h7.hi)
  · exact r_lo (drop_lo hS h3.lo) h4.lo (drop_lo hS h5.lo) (drop_lo hS h6.lo) (t_lo hS hcu h7.lo)
  · exact r_hi (drop_hi hS h3.hi) h4.hi (drop_hi hS h5.hi) (drop_hi hS h6.hi) (t_hi hS hcd h8.hi)
  · exact r_lo (drop_lo hS h3.lo) h4.lo (drop_lo hS h5.lo) (drop_lo hS h6.lo) (t_lo hS hcd h8.lo)

/-- R is nought. -/
theorem near_zero {S v1 vl d n : Nat} (hS : 0 < S) (hd : 0 < d) (hn : 0 < n) (h1 : Rnd S v1 (d * S * (d * S))) (h2 : Rnd S vl (v1 * (n * S))) :
    Near vl 0 0 (d * d * n * S * S) 0 (S * (p2 53 * p2 53 * p2 53 * p2 53 * p2 53) * p2 40) := by
  refine ⟨?_, ?_, ?_, ?_, ?_, ?_, ?_, ?_⟩
  · exact Nat.mul_pos (Nat.mul_pos hS (by decide)) (by decide)
  · exact Nat.mul_pos (Nat.mul_pos (Nat.mul_pos (Nat.mul_pos hd hd) hn) hS) hS
  · exact l_hi (drop_hi hS h1.hi) (drop_hi hS h2.hi)
  · exact l_lo (drop_lo hS h1.lo) (drop_lo hS h2.lo)
  all_goals (rw [Nat.zero_mul, Nat.zero_mul]; exact Nat.le_refl _)

theorem swap3 {A B C D : Nat} (E : Nat) (h : A * C = B * D) : A * E * C = B * E * D := by
  calc A * E * C = A * C * E := by ac_rfl
    _ = B * D * E := by rw [h]
    _ = B * E * D := by ac_rfl
theorem p2_1074a : p2 1074 = p2 52 * p2 1022 := p2_add 52 1022
theorem p2_1074b : p2 1074 = p2 53 * p2 1021 := p2_add 53 1021
theorem cu_eq : V cU * p2 40 = p2 1074 * (p2 40 + 1) := by
  rw [V_cU, p2_1074a]
  exact swap3 _ (by decide)
theorem cd_eq : V cD * p2 40 = p2 1074 * (p2 40 - 1) := by
  rw [V_cD, p2_1074b]
  exact swap3 _ (by decide)
theorem c4_eq : V c4 = 4 * p2 1074 := by
  rw [V_c4, ← p2_add, show 52 + 1024 = 2 + 1074 by decide, p2_add]
  exact Nat.mul_right_cancel_iff (p2_pos 1074) |>.2 (by decide)

end Go.Proofs.Qxb6600555aMods.Dbl
