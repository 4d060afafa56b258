/-
  The walks over doubles: 'confidentInDoubles' (17) of a z that is no number; the exported twin (13); is z in range (14): all z.
-/
import Derived.Test.Qxb6600555aModsDblX
namespace Go.Proofs.Qxb6600555aMods.Dbl
open Go.RowKit
set_option linter.unusedVariables false

/-- The bits of the NaN that the run is given. -/
def nb (w : World) (x y : Nat) : Nat := (Question.nanBits .f64 x y).cut (w.tape w.drawn (Question.nanBits .f64 x y))
theorem nb_nan (w : World) (x y : Nat) : nanB (nb w x y) = true := nan_cut x y _

theorem run_nan {a b : Nat} (h : Ieee.double.mul a b = none) (w : World) : (binOp .mul 27 (.float .f64 a) (.float .f64 b)).run Trym.prog w = .ok (.float .f64 (nb w a b)) w.drew := by
  have h' : FloatKind.f64.format.mul a b = none := h
  simp [binOp, Op.floatArith, h', Question.forced]
  rfl
theorem run_nan_if (w : World) (a b : Nat) (h : (nanB a || nanB b) = true) : (binOp .mul 27 (.float .f64 a) (.float .f64 b)).run Trym.prog w = .ok (.float .f64 (nb w a b)) w.drew := by
  refine run_nan ?_ w
  rcases Bool.or_eq_true_iff.1 h with h | h
  · exact nan_mul_left h
  · exact nan_mul_right h

set_option maxHeartbeats 1000000 in
theorem conf_nan (m n z D Nf l1 l : Nat) (w : World) (hz : nanB z = true) (eD : floatOfInt .f64 (2 * (m : Int) - (n : Int)) = D) (eN : floatOfInt .f64 (n : Int) = Nf) (el1 : Ieee.double.mul D D = some l1) (el : Ieee.double.mul l1 Nf = some l)
    (hn : n < 1073741824) (hm : m ≤ n) (h2m : n < 2 * m) :
    Calls Trym.prog 17 #[.int .i64 m, .int .i64 n, .float .f64 z] w fun e w' => e = .returned (.tuple #[.bool false, .bool false]) ∧ Below w.heap.size w w' ∧ Grown w w' := by
  have o0 : FloatKind.f64.format.order z 0 = none := nan_order_left hz
  have oL : FloatKind.f64.format.order z 2805742567851819008 = none := nan_order_left hz
  have oH : FloatKind.f64.format.order z 6408622269748215808 = none := nan_order_left hz
  have k1 := run_mul el1
  have k2 := run_mul el
  have kn := run_nan_if
  have hb := nb_nan
  have ho : ∀ a b : Nat, nanB b = true → FloatKind.f64.format.order a b = none := fun a b h => nan_order_right h
  clear el1 el
  go_enter Trym.func17, Trym.ntmps17
  go_wp2
  go_ret2
  refine ⟨rfl, ?_, ?_⟩
  · repeat (first | exact Below.refl _ _ | apply Below.drew)
  · repeat (first | exact Grown.refl _ | apply Grown.drew)

/-- z out of range: no number, or below the least, or above the greatest. -/
def Zout (z : Nat) : Prop := nanB z = true ∨ ((Ieee.double.order z 0 == some .eq) = false ∧ ((Ieee.double.order z cLo = some .lt) ∨ (Ieee.double.order z cHi = some .gt ∧ Ieee.double.order z cLo = some .gt)))
/-- z in range, and what it stands for. -/
def Zin (z vz : Nat) : Prop := ((z = 0 ∨ z = 2 ^ 63) ∧ vz = 0) ∨ (Norm z ∧ V cLo ≤ V z ∧ V z ≤ V cHi ∧ vz = V z)

theorem z_split (z : Nat) (hz : z < 2 ^ 64) : Zout z ∨ ∃ vz, Zin z vz := by
  rcases z_cases z hz with h | h | h | h | h
  · exact .inl (.inl h)
  · exact .inr ⟨0, .inl ⟨.inl h, rfl⟩⟩
  · exact .inr ⟨0, .inl ⟨.inr h, rfl⟩⟩
  · exact .inl (.inr h)
  · exact .inr ⟨_, .inr ⟨h.1, h.2.1, h.2.2, rfl⟩⟩

theorem ord0 {z : Nat} (h : z = 0 ∨ z = 2 ^ 63) : FloatKind.f64.format.order z 0 = some .eq := by
  rcases h with rfl | rfl <;> decide

theorem range_out (z : Nat) (w : World) (h : Zout z) : Calls Trym.prog 14 #[.float .f64 z] w fun e w' => e = .returned (.bool false) ∧ w = w' := by
  rcases h with h | ⟨h0, h | ⟨hH, hL⟩⟩
  · have o0 : FloatKind.f64.format.order z 0 = none := nan_order_left h
    have oL : FloatKind.f64.format.order z 2805742567851819008 = none := nan_order_left h
    exact range_lo z w (by rw [o0]; rfl) (by rw [oL]; rfl)
  · have oL : FloatKind.f64.format.order z 2805742567851819008 = some .lt := h
    exact range_lo z w h0 (by rw [oL]; rfl)
  · have oL : FloatKind.f64.format.order z 2805742567851819008 = some .gt := hL
    have oH : FloatKind.f64.format.order z 6408622269748215808 = some .gt := hH
    exact range_hi z w h0 (by rw [oL]; rfl) (by rw [oH]; rfl)

theorem in_orders {z : Nat} (hz : Norm z) (h1 : V cLo ≤ V z) (h2 : V z ≤ V cHi) :
    (FloatKind.f64.format.order z 0 == some .eq) = false ∧ (FloatKind.f64.format.order z cLo = some .gt ∨ FloatKind.f64.format.order z cLo = some .eq) ∧ (FloatKind.f64.format.order z cHi = some .lt ∨ FloatKind.f64.format.order z cHi = some .eq) := by
  refine ⟨?_, ?_, ?_⟩
  · have e : FloatKind.f64.format.order z 0 = some .gt := order_gt z 0 hz.2 (by decide) (by rw [V_zero]; exact V_pos hz)
    rw [e]; rfl
  · rcases Nat.lt_or_ge (V cLo) (V z) with h | h
    · exact .inl (order_gt z cLo hz.2 N_cLo.2 h)
    · exact .inr (order_eq z cLo hz.2 N_cLo.2 (by omega))
  · rcases Nat.lt_or_ge (V z) (V cHi) with h | h
    · exact .inl (order_lt z cHi hz.2 N_cHi.2 h)
    · exact .inr (order_eq z cHi hz.2 N_cHi.2 (by omega))

theorem range_isin (z vz : Nat) (w : World) (h : Zin z vz) : Calls Trym.prog 14 #[.float .f64 z] w fun e w' => e = .returned (.bool true) ∧ w = w' := by
  rcases h with ⟨h, _⟩ | ⟨hz, h1, h2, _⟩
  · exact range_zero z w (by rw [ord0 h]; rfl)
  · obtain ⟨o0, oL, oH⟩ := in_orders hz h1 h2
    exact range_in z w o0 (by rcases oL with e | e <;> (have e' : FloatKind.f64.format.order z 2805742567851819008 = _ := e; rw [e']; rfl)) (by rcases oH with e | e <;> (have e' : FloatKind.f64.format.order z 6408622269748215808 = _ := e; rw [e']; rfl))

theorem conf_out (m n z : Nat) (w : World) (h : Zout z) (hn0 : 1 ≤ n) (hn : n < 1073741824) (hm : m ≤ n) (h2m : n < 2 * m) :
    Calls Trym.prog 17 #[.int .i64 m, .int .i64 n, .float .f64 z] w fun e w' => e = .returned (.tuple #[.bool false, .bool false]) ∧ Below w.heap.size w w' ∧ Grown w w' := by
  rcases h with h | ⟨h0, h | ⟨hH, hL⟩⟩
  · obtain ⟨D, Nf, l1, l, eD, eN, el1, el, _⟩ := left_side m n hn0 (by omega) hm h2m
    exact conf_nan m n z D Nf l1 l w h eD eN el1 el hn hm h2m
  · have oL : FloatKind.f64.format.order z 2805742567851819008 = some .lt := h
    refine (conf_lo m n z w ?_ (by rw [oL]; rfl)).mono ?_
    · have h0' : (FloatKind.f64.format.order z 0 == some .eq) = false := h0
      simp only [bne, h0']; rfl
    · rintro e w' ⟨he, rfl⟩
      exact ⟨he, Below.refl _ _, Grown.refl _⟩
  · have oL : FloatKind.f64.format.order z 2805742567851819008 = some .gt := hL
    have oH : FloatKind.f64.format.order z 6408622269748215808 = some .gt := hH
    refine (conf_hi m n z w ?_ (by rw [oL]; rfl) (by rw [oH]; rfl)).mono ?_
    · have h0' : (FloatKind.f64.format.order z 0 == some .eq) = false := h0
      simp only [bne, h0']; rfl
    · rintro e w' ⟨he, rfl⟩
      exact ⟨he, Below.refl _ _, Grown.refl _⟩

theorem conf_in (m n z vz : Nat) (w : World) (h : Zin z vz) (hn0 : 1 ≤ n) (hn : n < 1073741824) (hm : m ≤ n) (h2m : n < 2 * m) :
    Calls Trym.prog 17 #[.int .i64 m, .int .i64 n, .float .f64 z] w fun e w' => ∃ c s : Bool, e = .returned (.tuple #[.bool c, .bool s]) ∧ w = w' ∧ Ans (LX m n) (RY m n vz) c s := by
  rcases h with ⟨h, rfl⟩ | ⟨hz, h1, h2, rfl⟩
  · obtain ⟨D, Nf, Mf, Kf, l1, l, z4, r1, r2, r, t1, t2, C⟩ := comp_zero m n z hn0 (by omega) hm h2m h
    exact conf_z m n z 0 D Nf Mf Kf l1 l z4 r1 r2 r t1 t2 w C hn hm h2m (by rw [ord0 h]; rfl)
  · obtain ⟨D, Nf, Mf, Kf, l1, l, z4, r1, r2, r, t1, t2, C⟩ := comp_in m n z hn0 (by omega) hm h2m hz (by rw [← V_cLo']; exact h1) (by rw [← V_cHi']; exact h2)
    obtain ⟨o0, oL, oH⟩ := in_orders hz h1 h2
    exact conf_r m n z (V z) D Nf Mf Kf l1 l z4 r1 r2 r t1 t2 w C hn hm h2m (by simp only [bne, o0]; rfl) (by rcases oL with e | e <;> (have e' : FloatKind.f64.format.order z 2805742567851819008 = _ := e; rw [e']; rfl)) (by rcases oH with e | e <;> (have e' : FloatKind.f64.format.order z 6408622269748215808 = _ := e; rw [e']; rfl))

set_option maxHeartbeats 400000 in
theorem twin_out (m n z : Nat) (w : World) (h : Zout z) (hn0 : 1 ≤ n) (hn : n < 1073741824) (hm : m ≤ n) (h2m : n < 2 * m) :
    Calls Trym.prog 13 #[.int .i64 m, .int .i64 n, .float .f64 z] w fun e w' => e = .returned (.tuple #[.bool false, .bool false]) ∧ Below w.heap.size w w' ∧ Grown w w' := by
  go_enter Trym.func13, Trym.ntmps13
  go_wp2_with fail
  refine (conf_out m n z _ h hn0 hn hm h2m).mono ?_
  rintro e w' ⟨rfl, hB, hG⟩
  go_wp2
  go_ret2
  exact ⟨rfl, hB, hG⟩

set_option maxHeartbeats 400000 in
theorem twin_in (m n z vz : Nat) (w : World) (h : Zin z vz) (hn0 : 1 ≤ n) (hn : n < 1073741824) (hm : m ≤ n) (h2m : n < 2 * m) :
    Calls Trym.prog 13 #[.int .i64 m, .int .i64 n, .float .f64 z] w fun e w' => ∃ c s : Bool, e = .returned (.tuple #[.bool c, .bool s]) ∧ w = w' ∧ Ans (LX m n) (RY m n vz) c s := by
  go_enter Trym.func13, Trym.ntmps13
  go_wp2_with fail
  refine (conf_in m n z vz _ h hn0 hn hm h2m).mono ?_
  rintro e w' ⟨c, s, rfl, rfl, hA⟩
  go_wp2
  go_ret2
  exact ⟨c, s, rfl, rfl, hA⟩

end Go.Proofs.Qxb6600555aMods.Dbl
