/-
  The walks of the functions on four limbs: the length in bits (20), the order (21).
-/
import Derived.Test.Qxb6600555aModsLimX
namespace Go.Proofs.Qxb6600555aMods.Lim
open Go.RowKit
set_option linter.unusedVariables false

theorem bl_of (v k : Nat) (h1 : 2 ^ k ≤ v) (h2 : v < 2 ^ (k + 1)) : bl v = k + 1 := by
  have hm : v ≠ 0 := by have := Nat.two_pow_pos k; omega
  unfold bl
  rw [if_neg hm]
  have a := Nat.log2_self_le hm
  have b : v < 2 ^ (v.log2 + 1) := Nat.lt_log2_self
  have c1 := (Nat.pow_lt_pow_iff_right (a := 2) (by omega)).1 (Nat.lt_of_le_of_lt h1 b)
  have c2 := (Nat.pow_lt_pow_iff_right (a := 2) (by omega)).1 (Nat.lt_of_le_of_lt a h2)
  omega
theorem bl_spec (v : Nat) (h : v ≠ 0) : ∃ k, bl v = k + 1 ∧ 2 ^ k ≤ v ∧ v < 2 ^ (k + 1) := by
  refine ⟨v.log2, ?_, Nat.log2_self_le h, Nat.lt_log2_self⟩
  unfold bl; rw [if_neg h]
theorem bl_top (low k t : Nat) (hl : low < 2 ^ k) (ht : t ≠ 0) : bl (low + 2 ^ k * t) = k + bl t := by
  obtain ⟨j, e, h1, h2⟩ := bl_spec t ht
  rw [e, ← Nat.add_assoc]
  refine bl_of _ _ ?_ ?_
  · rw [Nat.pow_add]
    have := Nat.mul_le_mul_left (2 ^ k) h1
    omega
  · rw [Nat.add_assoc, Nat.pow_add]
    have h3 : 2 ^ k * (t + 1) ≤ 2 ^ k * 2 ^ (j + 1) := Nat.mul_le_mul_left _ h2
    rw [Nat.mul_add, Nat.mul_one] at h3
    omega
theorem bl_le_of (v k : Nat) (h : v < 2 ^ k) : bl v ≤ k := by
  by_cases h0 : v = 0
  · subst h0; simp [bl]
  · obtain ⟨j, e, h1, h2⟩ := bl_spec v h0
    have := (Nat.pow_lt_pow_iff_right (a := 2) (by omega)).1 (Nat.lt_of_le_of_lt h1 h)
    omega

theorem lm_bl3 {X x0 x1 x2 x3 : Nat} (h : Lm X x0 x1 x2 x3) (h3 : x3 ≠ 0) : bl X = 192 + bl x3 := by
  have := bl_top (x0 + 18446744073709551616 * x1 + 340282366920938463463374607431768211456 * x2) 192 x3 (by have := h.b0; have := h.b1; have := h.b2; omega) h3
  rw [← this, ← h.val]
theorem lm_bl2 {X x0 x1 x2 : Nat} (h : Lm X x0 x1 x2 0) (h2 : x2 ≠ 0) : bl X = 128 + bl x2 := by
  have := bl_top (x0 + 18446744073709551616 * x1) 128 x2 (by have := h.b0; have := h.b1; omega) h2
  rw [← this, ← h.val]; rfl
theorem lm_bl1 {X x0 x1 : Nat} (h : Lm X x0 x1 0 0) (h1 : x1 ≠ 0) : bl X = 64 + bl x1 := by
  have := bl_top x0 64 x1 (by have := h.b0; omega) h1
  rw [← this, ← h.val]; rfl
theorem lm_bl0 {X x0 : Nat} (h : Lm X x0 0 0 0) : bl X = bl x0 := by rw [← h.val]; rfl

/-- What is known of the limbs from i on. -/
def Z (x0 x1 x2 x3 i : Nat) : Prop := (i ≤ 3 → x3 = 0) ∧ (i ≤ 2 → x2 = 0) ∧ (i ≤ 1 → x1 = 0) ∧ (i = 0 → x0 = 0)

set_option maxHeartbeats 1000000 in
theorem bitlen_any (X x0 x1 x2 x3 : Nat) (w : World) (hX : Lm X x0 x1 x2 x3) :
    Calls Trym.prog 20 #[.agg #[.int .u64 x0, .int .u64 x1, .int .u64 x2, .int .u64 x3]] w fun e w' => e = .returned (.int .i64 (bl X : Nat)) ∧ Below w.heap.size w w' ∧ Grown w w' := by
  have HX : Hid (Lm X x0 x1 x2 x3) := hX
  clear hX
  go_enter Trym.func20, Trym.ntmps20
  go_wp2
  go_loopg [3] 4 (fun g vi wx => w.alloc (.cells #[.int .u64 x0, .int .u64 x1, .int .u64 x2, .int .u64 x3] 34) = wx ∧ ∃ i : Nat, i = g ∧ i ≤ 4 ∧ vi = .int .i64 ((i : Int) - 1) ∧ Hid (Z x0 x1 x2 x3 i))
  case atStart => exact ⟨rfl, 4, rfl, by omega, rfl, ⟨fun h => by omega, fun h => by omega, fun h => by omega, fun h => by omega⟩⟩
  case round =>
    obtain ⟨rfl, i, rfl, hi, rfl, hz⟩ := hrel
    rcases (show i = 0 ∨ i = 1 ∨ i = 2 ∨ i = 3 ∨ i = 4 by omega) with rfl | rfl | rfl | rfl | rfl
    · have he : bl X = 0 := by
        obtain ⟨e3, e2, e1, e0⟩ := hz.out
        have := HX.out
        rw [e3 (by omega), e2 (by omega), e1 (by omega), e0 rfl] at this
        rw [lm_bl0 this]; rfl
      have HE : Hid (bl X = 0) := he
      clear he
      go_wp2
      go_ret
      exact ⟨by rw [HE.out]; rfl, (Below.refl _ _).alloc (Nat.le_refl _) _, (Grown.refl _).alloc _ _⟩
    · obtain ⟨e3, e2, e1, e0⟩ := hz.out
      by_cases h : x0 = 0
      · have hb : ((x0 : Int) != 0) = false := by simp [h]
        have hz' : Hid (Z x0 x1 x2 x3 0) := ⟨fun _ => e3 (by omega), fun _ => e2 (by omega), fun _ => e1 (by omega), fun _ => h⟩
        clear h hz e3 e2 e1 e0
        go_wp2
        go_roundg 0
        case measure => omega
        case rel => exact ⟨rfl, 0, rfl, by omega, by go_num, hz'⟩
      · have hb : ((x0 : Int) != 0) = true := by simp [h]
        have hL := HX.out
        rw [e3 (by omega), e2 (by omega), e1 (by omega)] at hL
        have hbl := lm_bl0 hL
        have hble := bl_le x0 HX.out.b0
        have HB : Hid (bl X = bl x0) := hbl
        clear hbl hL e3 e2 e1 e0
        go_wp2_with fail
        refine (bitlen64_any x0 _ HX.out.b0).mono ?_
        rintro e w' ⟨rfl, rfl⟩
        go_wp2
        go_ret
        exact ⟨by rw [HB.out]; go_num, (Below.refl _ _).alloc (Nat.le_refl _) _, (Grown.refl _).alloc _ _⟩
    · obtain ⟨e3, e2, e1, e0⟩ := hz.out
      by_cases h : x1 = 0
      · have hb : ((x1 : Int) != 0) = false := by simp [h]
        have hz' : Hid (Z x0 x1 x2 x3 1) := ⟨fun _ => e3 (by omega), fun _ => e2 (by omega), fun _ => h, fun h => by omega⟩
        clear h hz e3 e2 e1 e0
        go_wp2
        go_roundg 1
        case measure => omega
        case rel => exact ⟨rfl, 1, rfl, by omega, by go_num, hz'⟩
      · have hb : ((x1 : Int) != 0) = true := by simp [h]
        have hL := HX.out
        rw [e3 (by omega), e2 (by omega)] at hL
        have hbl := lm_bl1 hL h
        have hble := bl_le x1 HX.out.b1
        have HB : Hid (bl X = 64 + bl x1) := hbl
        clear hbl hL e3 e2 e1 e0
        go_wp2_with fail
        refine (bitlen64_any x1 _ HX.out.b1).mono ?_
        rintro e w' ⟨rfl, rfl⟩
        go_wp2
        go_ret
        exact ⟨by rw [HB.out]; go_num, (Below.refl _ _).alloc (Nat.le_refl _) _, (Grown.refl _).alloc _ _⟩
    · obtain ⟨e3, e2, e1, e0⟩ := hz.out
      by_cases h : x2 = 0
      · have hb : ((x2 : Int) != 0) = false := by simp [h]
        have hz' : Hid (Z x0 x1 x2 x3 2) := ⟨fun _ => e3 (by omega), fun _ => h, fun h => by omega, fun h => by omega⟩
        clear h hz e3 e2 e1 e0
        go_wp2
        go_roundg 2
        case measure => omega
        case rel => exact ⟨rfl, 2, rfl, by omega, by go_num, hz'⟩
      · have hb : ((x2 : Int) != 0) = true := by simp [h]
        have hL := HX.out
        rw [e3 (by omega)] at hL
        have hbl := lm_bl2 hL h
        have hble := bl_le x2 HX.out.b2
        have HB : Hid (bl X = 128 + bl x2) := hbl
        clear hbl hL e3 e2 e1 e0
        go_wp2_with fail
        refine (bitlen64_any x2 _ HX.out.b2).mono ?_
        rintro e w' ⟨rfl, rfl⟩
        go_wp2
        go_ret
        exact ⟨by rw [HB.out]; go_num, (Below.refl _ _).alloc (Nat.le_refl _) _, (Grown.refl _).alloc _ _⟩
    · obtain ⟨e3, e2, e1, e0⟩ := hz.out
      by_cases h : x3 = 0
      · have hb : ((x3 : Int) != 0) = false := by simp [h]
        have hz' : Hid (Z x0 x1 x2 x3 3) := ⟨fun _ => h, fun h => by omega, fun h => by omega, fun h => by omega⟩
        clear h hz e3 e2 e1 e0
        go_wp2
        go_roundg 3
        case measure => omega
        case rel => exact ⟨rfl, 3, rfl, by omega, by go_num, hz'⟩
      · have hb : ((x3 : Int) != 0) = true := by simp [h]
        have hL := HX.out
        have hbl := lm_bl3 hL h
        have hble := bl_le x3 HX.out.b3
        have HB : Hid (bl X = 192 + bl x3) := hbl
        clear hbl hL e3 e2 e1 e0
        go_wp2_with fail
        refine (bitlen64_any x3 _ HX.out.b3).mono ?_
        rintro e w' ⟨rfl, rfl⟩
        go_wp2
        go_ret
        exact ⟨by rw [HB.out]; go_num, (Below.refl _ _).alloc (Nat.le_refl _) _, (Grown.refl _).alloc _ _⟩

/-! ### The order of two numbers of four limbs -/
def sgn (A B : Nat) : Int := if A < B then -1 else if A = B then 0 else 1

/-- What is known of the limbs from i on: they are alike. -/
def Q (a0 a1 a2 a3 b0 b1 b2 b3 i : Nat) : Prop := (i ≤ 3 → a3 = b3) ∧ (i ≤ 2 → a2 = b2) ∧ (i ≤ 1 → a1 = b1) ∧ (i = 0 → a0 = b0)

theorem sgn_gt {A B : Nat} (h : B < A) : sgn A B = 1 := by unfold sgn; rw [if_neg (by omega), if_neg (by omega)]
theorem sgn_lt {A B : Nat} (h : A < B) : sgn A B = -1 := by unfold sgn; rw [if_pos h]
theorem sgn_eq {A B : Nat} (h : A = B) : sgn A B = 0 := by unfold sgn; rw [if_neg (by omega), if_pos h]

theorem bg_drewN {w w1 : World} (h : Below w.heap.size w w1 ∧ Grown w w1) (q : Nat) : Below w.heap.size w (w1.drewN q) ∧ Grown w (w1.drewN q) := ⟨below_drewN h.1 q, h.2⟩
theorem two_new (w : World) (a b : Array Value) (s t : TypeId) : Below w.heap.size w ((w.alloc (.cells a s)).alloc (.cells b t)) ∧ Grown w ((w.alloc (.cells a s)).alloc (.cells b t)) :=
  ⟨((Below.refl _ _).alloc (Nat.le_refl _) _).alloc (by simp) _, ((Grown.refl _).alloc _ _).alloc _ _⟩

set_option maxHeartbeats 1000000 in
theorem cmp_any (A B a0 a1 a2 a3 b0 b1 b2 b3 : Nat) (w : World) (hA : Lm A a0 a1 a2 a3) (hB : Lm B b0 b1 b2 b3) :
    Calls Trym.prog 21 #[.agg #[.int .u64 a0, .int .u64 a1, .int .u64 a2, .int .u64 a3], .agg #[.int .u64 b0, .int .u64 b1, .int .u64 b2, .int .u64 b3]] w fun e w' => e = .returned (.int .i64 (sgn A B)) ∧ Below w.heap.size w w' ∧ Grown w w' := by
  have HA : Hid (Lm A a0 a1 a2 a3) := hA
  have HB : Hid (Lm B b0 b1 b2 b3) := hB
  clear hA hB
  go_enter Trym.func21, Trym.ntmps21
  go_wp2
  go_loopg [5] 4 (fun g vi wx => ∃ i q : Nat, i = g ∧ i ≤ 4 ∧ vi = .int .i64 ((i : Int) - 1) ∧ ((w.alloc (.cells #[.int .u64 a0, .int .u64 a1, .int .u64 a2, .int .u64 a3] 34)).alloc (.cells #[.int .u64 b0, .int .u64 b1, .int .u64 b2, .int .u64 b3] 34)).drewN q = wx ∧ Hid (Q a0 a1 a2 a3 b0 b1 b2 b3 i))
  case atStart => exact ⟨4, 0, rfl, by omega, rfl, rfl, ⟨fun h => by omega, fun h => by omega, fun h => by omega, fun h => by omega⟩⟩
  case round =>
    obtain ⟨i, q, rfl, hi, rfl, rfl, hz⟩ := hrel
    rcases (show i = 0 ∨ i = 1 ∨ i = 2 ∨ i = 3 ∨ i = 4 by omega) with rfl | rfl | rfl | rfl | rfl
    · have hs : A = B := by
        obtain ⟨e3, e2, e1, e0⟩ := hz.out
        have vA := HA.out.val
        have vB := HB.out.val
        rw [e3 (by omega), e2 (by omega), e1 (by omega), e0 rfl] at vA
        omega
      have HS : Hid (sgn A B = 0) := sgn_eq hs
      clear hs
      go_wp2
      go_ret
      exact ⟨by rw [HS.out]; rfl, by repeat (first | exact two_new _ _ _ _ _ | refine bg_drewN ?_ _)⟩
    · obtain ⟨e3, e2, e1, e0⟩ := hz.out
      rcases Nat.lt_trichotomy a0 b0 with h | h | h
      · have hs : A < B := by have q3 := e3 (by omega); have q2 := e2 (by omega); have q1 := e1 (by omega); have vA := HA.out.val; have vB := HB.out.val; have := HA.out.b0; have := HA.out.b1; have := HA.out.b2; have := HB.out.b0; have := HB.out.b1; have := HB.out.b2; omega
        have HS : Hid (sgn A B = -1) := sgn_lt hs
        have h1 : ¬ (b0 : Int) < (a0 : Int) := by omega
        have h2 : (a0 : Int) < (b0 : Int) := by omega
        clear hs h hz e3 e2 e1 e0
        go_wp2
        go_quiet (fail)
        go_wp2
        go_quiet (fail)
        go_wp2
        go_ret
        exact ⟨by rw [HS.out]; rfl, by repeat (first | exact two_new _ _ _ _ _ | refine bg_drewN ?_ _)⟩
      · have hz' : Hid (Q a0 a1 a2 a3 b0 b1 b2 b3 0) := ⟨fun _ => e3 (by omega), fun _ => e2 (by omega), fun _ => e1 (by omega), fun _ => h⟩
        have h1 : ¬ (b0 : Int) < (a0 : Int) := by omega
        have h2 : ¬ (a0 : Int) < (b0 : Int) := by omega
        clear h hz e3 e2 e1 e0
        go_wp2
        go_quiet (fail)
        go_wp2
        go_quiet (fail)
        go_wp2
        go_roundg 0
        case measure => omega
        case rel => exact ⟨0, _, rfl, by omega, by go_num, rfl, hz'⟩
      · have hs : B < A := by have q3 := e3 (by omega); have q2 := e2 (by omega); have q1 := e1 (by omega); have vA := HA.out.val; have vB := HB.out.val; have := HA.out.b0; have := HA.out.b1; have := HA.out.b2; have := HB.out.b0; have := HB.out.b1; have := HB.out.b2; omega
        have HS : Hid (sgn A B = 1) := sgn_gt hs
        have h1 : (b0 : Int) < (a0 : Int) := by omega
        clear hs h hz e3 e2 e1 e0
        go_wp2
        go_quiet (fail)
        go_wp2
        go_ret
        exact ⟨by rw [HS.out]; rfl, by repeat (first | exact two_new _ _ _ _ _ | refine bg_drewN ?_ _)⟩
    · obtain ⟨e3, e2, e1, e0⟩ := hz.out
      rcases Nat.lt_trichotomy a1 b1 with h | h | h
      · have hs : A < B := by have q3 := e3 (by omega); have q2 := e2 (by omega); have vA := HA.out.val; have vB := HB.out.val; have := HA.out.b0; have := HA.out.b1; have := HA.out.b2; have := HB.out.b0; have := HB.out.b1; have := HB.out.b2; omega
        have HS : Hid (sgn A B = -1) := sgn_lt hs
        have h1 : ¬ (b1 : Int) < (a1 : Int) := by omega
        have h2 : (a1 : Int) < (b1 : Int) := by omega
        clear hs h hz e3 e2 e1 e0
        go_wp2
        go_quiet (fail)
        go_wp2
        go_quiet (fail)
        go_wp2
        go_ret
        exact ⟨by rw [HS.out]; rfl, by repeat (first | exact two_new _ _ _ _ _ | refine bg_drewN ?_ _)⟩
      · have hz' : Hid (Q a0 a1 a2 a3 b0 b1 b2 b3 1) := ⟨fun _ => e3 (by omega), fun _ => e2 (by omega), fun _ => h, fun h => by omega⟩
        have h1 : ¬ (b1 : Int) < (a1 : Int) := by omega
        have h2 : ¬ (a1 : Int) < (b1 : Int) := by omega
        clear h hz e3 e2 e1 e0
        go_wp2
        go_quiet (fail)
        go_wp2
        go_quiet (fail)
        go_wp2
        go_roundg 1
        case measure => omega
        case rel => exact ⟨1, _, rfl, by omega, by go_num, rfl, hz'⟩
      · have hs : B < A := by have q3 := e3 (by omega); have q2 := e2 (by omega); have vA := HA.out.val; have vB := HB.out.val; have := HA.out.b0; have := HA.out.b1; have := HA.out.b2; have := HB.out.b0; have := HB.out.b1; have := HB.out.b2; omega
        have HS : Hid (sgn A B = 1) := sgn_gt hs
        have h1 : (b1 : Int) < (a1 : Int) := by omega
        clear hs h hz e3 e2 e1 e0
        go_wp2
        go_quiet (fail)
        go_wp2
        go_ret
        exact ⟨by rw [HS.out]; rfl, by repeat (first | exact two_new _ _ _ _ _ | refine bg_drewN ?_ _)⟩
    · obtain ⟨e3, e2, e1, e0⟩ := hz.out
      rcases Nat.lt_trichotomy a2 b2 with h | h | h
      · have hs : A < B := by have q3 := e3 (by omega); have vA := HA.out.val; have vB := HB.out.val; have := HA.out.b0; have := HA.out.b1; have := HA.out.b2; have := HB.out.b0; have := HB.out.b1; have := HB.out.b2; omega
        have HS : Hid (sgn A B = -1) := sgn_lt hs
        have h1 : ¬ (b2 : Int) < (a2 : Int) := by omega
        have h2 : (a2 : Int) < (b2 : Int) := by omega
        clear hs h hz e3 e2 e1 e0
        go_wp2
        go_quiet (fail)
        go_wp2
        go_quiet (fail)
        go_wp2
        go_ret
        exact ⟨by rw [HS.out]; rfl, by repeat (first | exact two_new _ _ _ _ _ | refine bg_drewN ?_ _)⟩
      · have hz' : Hid (Q a0 a1 a2 a3 b0 b1 b2 b3 2) := ⟨fun _ => e3 (by omega), fun _ => h, fun h => by omega, fun h => by omega⟩
        have h1 : ¬ (b2 : Int) < (a2 : Int) := by omega
        have h2 : ¬ (a2 : Int) < (b2 : Int) := by omega
        clear h hz e3 e2 e1 e0
        go_wp2
        go_quiet (fail)
        go_wp2
        go_quiet (fail)
        go_wp2
        go_roundg 2
        case measure => omega
        case rel => exact ⟨2, _, rfl, by omega, by go_num, rfl, hz'⟩
      · have hs : B < A := by have q3 := e3 (by omega); have vA := HA.out.val; have vB := HB.out.val; have := HA.out.b0; have := HA.out.b1; have := HA.out.b2; have := HB.out.b0; have := HB.out.b1; have := HB.out.b2; omega
        have HS : Hid (sgn A B = 1) := sgn_gt hs
        have h1 : (b2 : Int) < (a2 : Int) := by omega
        clear hs h hz e3 e2 e1 e0
        go_wp2
        go_quiet (fail)
        go_wp2
        go_ret
        exact ⟨by rw [HS.out]; rfl, by repeat (first | exact two_new _ _ _ _ _ | refine bg_drewN ?_ _)⟩
    · obtain ⟨e3, e2, e1, e0⟩ := hz.out
      rcases Nat.lt_trichotomy a3 b3 with h | h | h
      · have hs : A < B := by have vA := HA.out.val; have vB := HB.out.val; have := HA.out.b0; have := HA.out.b1; have := HA.out.b2; have := HB.out.b0; have := HB.out.b1; have := HB.out.b2; omega
        have HS : Hid (sgn A B = -1) := sgn_lt hs
        have h1 : ¬ (b3 : Int) < (a3 : Int) := by omega
        have h2 : (a3 : Int) < (b3 : Int) := by omega
        clear hs h hz e3 e2 e1 e0
        go_wp2
        go_quiet (fail)
        go_wp2
        go_quiet (fail)
        go_wp2
        go_ret
        exact ⟨by rw [HS.out]; rfl, by repeat (first | exact two_new _ _ _ _ _ | refine bg_drewN ?_ _)⟩
      · have hz' : Hid (Q a0 a1 a2 a3 b0 b1 b2 b3 3) := ⟨fun _ => h, fun h => by omega, fun h => by omega, fun h => by omega⟩
        have h1 : ¬ (b3 : Int) < (a3 : Int) := by omega
        have h2 : ¬ (a3 : Int) < (b3 : Int) := by omega
        clear h hz e3 e2 e1 e0
        go_wp2
        go_quiet (fail)
        go_wp2
        go_quiet (fail)
        go_wp2
        go_roundg 3
        case measure => omega
        case rel => exact ⟨3, _, rfl, by omega, by go_num, rfl, hz'⟩
      · have hs : B < A := by have vA := HA.out.val; have vB := HB.out.val; have := HA.out.b0; have := HA.out.b1; have := HA.out.b2; have := HB.out.b0; have := HB.out.b1; have := HB.out.b2; omega
        have HS : Hid (sgn A B = 1) := sgn_gt hs
        have h1 : (b3 : Int) < (a3 : Int) := by omega
        clear hs h hz e3 e2 e1 e0
        go_wp2
        go_quiet (fail)
        go_wp2
        go_ret
        exact ⟨by rw [HS.out]; rfl, by repeat (first | exact two_new _ _ _ _ _ | refine bg_drewN ?_ _)⟩

end Go.Proofs.Qxb6600555aMods.Lim
