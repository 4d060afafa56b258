/-
  Doubles as whole numbers: the kinds of z; NaNs.
-/
import Derived.Test.Qxb6600555aModsDblB
namespace Go.Proofs.Qxb6600555aMods.Dbl
open Ieee
set_option linter.unusedVariables false

def nanB (b : Nat) : Bool := (double.read b).isNaN

theorem nan_read {b : Nat} (h : nanB b = true) : ∃ s f, double.read b = .nan s f := by
  unfold nanB at h
  cases e : double.read b with
  | number s m p => rw [e] at h; simp [Datum.isNaN] at h
  | infinity s => rw [e] at h; simp [Datum.isNaN] at h
  | nan s f => exact ⟨s, f, rfl⟩

theorem nan_mul_left {a b : Nat} (h : nanB a = true) : double.mul a b = none := by
  obtain ⟨s, f, e⟩ := nan_read h
  unfold Format.mul
  rw [e]
  rfl
theorem nan_mul_right {a b : Nat} (h : nanB b = true) : double.mul a b = none := by
  obtain ⟨s, f, e⟩ := nan_read h
  unfold Format.mul
  rw [e]
  cases double.read a <;> rfl
theorem nan_order_left {a b : Nat} (h : nanB a = true) : double.order a b = none := by
  obtain ⟨s, f, e⟩ := nan_read h
  unfold Format.order
  rw [e]
  rfl
theorem nan_order_right {a b : Nat} (h : nanB b = true) : double.order a b = none := by
  obtain ⟨s, f, e⟩ := nan_read h
  unfold Format.order
  rw [e]
  cases double.read a <;> rfl

theorem nan_cut (x y t : Nat) : nanB ((Question.nanBits .f64 x y).cut t) = true := by
  have e : (Question.nanBits .f64 x y).cut t = (t % 2) * 2 ^ 63 + 0x7ff0000000000000 + 1 + (t / 2) % (2 ^ 52 - 1) := rfl
  rw [e]
  have hb : t % 2 < 2 := Nat.mod_lt _ (by decide)
  have hf : (t / 2) % (2 ^ 52 - 1) < 2 ^ 52 - 1 := Nat.mod_lt _ (by decide)
  generalize t % 2 = a at *
  generalize (t / 2) % (2 ^ 52 - 1) = f at *
  unfold nanB Format.read
  rw [signWeight_double, binade_double, infRung_double, leastPlace_double]
  have h1 : (a * 2 ^ 63 + 0x7ff0000000000000 + 1 + f) % 2 ^ 63 = 0x7ff0000000000000 + 1 + f := by omega
  simp only [h1]
  rw [if_neg (by omega), if_neg (by omega), if_neg (by omega)]
  rfl

/-! ### The kinds of z -/
theorem V_small {r : Nat} (h : r < 2 ^ 52) : V r = r := by unfold V; rw [if_pos h]
theorem V_ge {r : Nat} (h : r < 2047 * 2 ^ 52) (hv : p2 52 ≤ V r) : Norm r := by
  refine ⟨?_, h⟩
  rcases Nat.lt_or_ge r (2 ^ 52) with h' | h'
  · rw [V_small h'] at hv; exact hv
  · exact h'
theorem V_zero_iff {r : Nat} (h : 0 < r) (h2 : r < 2047 * 2 ^ 52) : 0 < V r := by
  rcases Nat.lt_or_ge r (2 ^ 52) with h' | h'
  · rw [V_small h']; exact h
  · exact V_pos ⟨h', h2⟩

theorem order_neg (z c m n i : Nat) (p : Int) (hz : double.read z = .number true m p) (hm : 0 < m) (hc : double.read c = .number false n ((i : Int) - 1074)) : double.order z c = some .lt := by
  unfold Format.order
  rw [hz, hc]
  simp only [Datum.order]
  generalize (p - min p ((i : Int) - 1074)).toNat = a
  generalize (((i : Int) - 1074) - min p ((i : Int) - 1074)).toNat = b
  congr 1
  rw [Int.compare_eq_lt]
  unfold signed
  rw [Nat.shiftLeft_eq, Nat.shiftLeft_eq]
  have : 0 < m * 2 ^ a := Nat.mul_pos hm (Nat.two_pow_pos _)
  simp only [if_true]
  have h2 : (0 : Int) ≤ ((n * 2 ^ b : Nat) : Int) := Int.natCast_nonneg _
  rw [if_neg (by decide)]
  omega

theorem z_cases (z : Nat) (hz : z < 2 ^ 64) :
    nanB z = true ∨ z = 0 ∨ z = 2 ^ 63 ∨ ((double.order z 0 == some .eq) = false ∧ ((double.order z cLo = some .lt) ∨ (double.order z cHi = some .gt ∧ double.order z cLo = some .gt))) ∨ (Norm z ∧ V cLo ≤ V z ∧ V z ≤ V cHi) := by
  obtain ⟨nl, il, rl, vl, _⟩ := read_num cLo N_cLo.2
  obtain ⟨nh, ih, rh, vh, _⟩ := read_num cHi N_cHi.2
  by_cases hneg : z < 2 ^ 63
  · rcases Nat.lt_trichotomy z (2047 * 2 ^ 52) with h | h | h
    · by_cases h0 : z = 0
      · exact .inr (.inl h0)
      · have hv := V_zero_iff (by omega) h
        have o0 : double.order z 0 = some .gt := order_gt z 0 h (by decide) (by rw [V_zero]; exact hv)
        by_cases c1 : V z < V cLo
        · exact .inr (.inr (.inr (.inl ⟨by rw [o0]; rfl, .inl (order_lt z cLo h N_cLo.2 c1)⟩)))
        · by_cases c2 : V cHi < V z
          · refine .inr (.inr (.inr (.inl ⟨by rw [o0]; rfl, .inr ⟨order_gt z cHi h N_cHi.2 c2, order_gt z cLo h N_cLo.2 ?_⟩⟩)))
            refine Nat.lt_of_le_of_lt ?_ c2
            rw [V_cLo, V_cHi, ← p2_add, ← p2_add]
            exact p2_le.2 (by decide)
          · refine .inr (.inr (.inr (.inr ⟨V_ge h ?_, Nat.le_of_not_lt c1, Nat.le_of_not_lt c2⟩)))
            refine Nat.le_trans ?_ (Nat.le_of_not_lt c1)
            rw [V_cLo, ← p2_add]
            exact p2_le.2 (by decide)
    · have hr : double.read z = .infinity false := by rw [h]; decide
      refine .inr (.inr (.inr (.inl ⟨?_, .inr ⟨?_, ?_⟩⟩)))
      · unfold Format.order; rw [hr, read_zero]; rfl
      · unfold Format.order; rw [hr, rh]; rfl
      · unfold Format.order; rw [hr, rl]; rfl
    · refine .inl ?_
      unfold nanB Format.read
      rw [signWeight_double, binade_double, infRung_double, leastPlace_double]
      have h1 : z % 2 ^ 63 = z := Nat.mod_eq_of_lt hneg
      simp only [h1]
      rw [if_neg (by omega), if_neg (by omega), if_neg (by omega)]
      rfl
  · obtain ⟨r, hr⟩ : ∃ r, z = 2 ^ 63 + r := ⟨z - 2 ^ 63, by omega⟩
    subst hr
    have h1 : (2 ^ 63 + r) % 2 ^ 63 = r := by omega
    have h2 : (2 ^ 63 + r) / 2 ^ 63 = 1 := by omega
    have hread : double.read (2 ^ 63 + r) = if r < 2 ^ 52 then Datum.number true r (-1074) else if r < 2047 * 2 ^ 52 then Datum.number true (2 ^ 52 + r % 2 ^ 52) (-1074 + (r / 2 ^ 52 - 1 : Nat)) else if r = 2047 * 2 ^ 52 then .infinity true else .nan true (r - 2047 * 2 ^ 52) := by
      unfold Format.read
      rw [signWeight_double, binade_double, infRung_double, leastPlace_double]
      simp only [h1, h2]
      rfl
    rcases Nat.lt_trichotomy r (2047 * 2 ^ 52) with h | h | h
    · by_cases h0 : r = 0
      · exact .inr (.inr (.inl (by omega)))
      · obtain ⟨m, p, hm, hrd⟩ : ∃ m p, 0 < m ∧ double.read (2 ^ 63 + r) = .number true m p := by
          rw [hread]
          by_cases hb : r < 2 ^ 52
          · rw [if_pos hb]; exact ⟨_, _, by omega, rfl⟩
          · rw [if_neg hb, if_pos h]; exact ⟨_, _, by omega, rfl⟩
        refine .inr (.inr (.inr (.inl ⟨?_, .inl (order_neg _ _ _ _ _ _ hrd hm rl)⟩)))
        rw [order_neg _ 0 m 0 0 p hrd hm (by rw [read_zero]; rfl)]
        rfl
    · have hrd : double.read (2 ^ 63 + r) = .infinity true := by
        rw [hread, if_neg (by omega), if_neg (by omega), if_pos h]
      refine .inr (.inr (.inr (.inl ⟨?_, .inl ?_⟩)))
      · unfold Format.order; rw [hrd, read_zero]; rfl
      · unfold Format.order; rw [hrd, rl]; rfl
    · refine .inl ?_
      unfold nanB
      rw [hread, if_neg (by omega), if_neg (by omega), if_neg (by omega)]
      rfl

end Go.Proofs.Qxb6600555aMods.Dbl
