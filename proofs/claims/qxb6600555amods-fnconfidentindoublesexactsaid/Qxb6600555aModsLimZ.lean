/-
  The walk of the shift of four limbs (22).
-/
import Derived.Test.Qxb6600555aModsLimY
namespace Go.Proofs.Qxb6600555aMods.Lim
open Go.RowKit
set_option linter.unusedVariables false

theorem sh_eq (x b : Nat) : IntKind.u64.wrap ((x : Int) * 2 ^ b) = ((x * 2 ^ b % 18446744073709551616 : Nat) : Int) := by
  have e : ((x : Int) * 2 ^ b) = ((x * 2 ^ b : Nat) : Int) := by simp
  rw [e, IntKind.wrap_u64]
  generalize x * 2 ^ b = t
  omega

theorem pow_split (b : Nat) (hb : b ≤ 64) : 2 ^ b * 2 ^ (64 - b) = 18446744073709551616 := by
  rw [← Nat.pow_add, show b + (64 - b) = 64 by omega]

theorem low_form (x b : Nat) (hb : b ≤ 64) : x * 2 ^ b % 18446744073709551616 = 2 ^ b * (x % 2 ^ (64 - b)) := by
  rw [← pow_split b hb, Nat.mul_comm x, Nat.mul_mod_mul_left]
theorem high_form (y b : Nat) (hb : b ≤ 64) : y * 2 ^ b / 18446744073709551616 = y / 2 ^ (64 - b) := by
  rw [← pow_split b hb, Nat.mul_comm y, Nat.mul_div_mul_left _ _ (Nat.two_pow_pos b)]
theorem high_lt (y b : Nat) (hy : y < 18446744073709551616) : y * 2 ^ b / 18446744073709551616 < 2 ^ b := by
  rw [Nat.div_lt_iff_lt_mul (by omega), Nat.mul_comm]
  exact Nat.mul_lt_mul_of_pos_left hy (Nat.two_pow_pos b)
theorem low_add (x y b : Nat) (hb : b ≤ 64) (hy : y < 18446744073709551616) : x * 2 ^ b % 18446744073709551616 + y * 2 ^ b / 18446744073709551616 < 18446744073709551616 := by
  have h1 := high_lt y b hy
  have h2 := low_form x b hb
  have h3 : x % 2 ^ (64 - b) + 1 ≤ 2 ^ (64 - b) := Nat.mod_lt _ (Nat.two_pow_pos _)
  have h4 := Nat.mul_le_mul_left (2 ^ b) h3
  rw [pow_split b hb, Nat.mul_add, Nat.mul_one, ← h2] at h4
  omega

theorem or_eq (x y b : Nat) (hb : b ≤ 64) (hy : y < 18446744073709551616) :
    bits BinOp.or IntKind.u64 (IntKind.u64.wrap ((x : Int) * 2 ^ b)) ((y : Int) / 2 ^ (64 - b)) = ((x * 2 ^ b % 18446744073709551616 + y * 2 ^ b / 18446744073709551616 : Nat) : Int) := by
  have e1 : ((y : Int) / 2 ^ (64 - b)) = ((y * 2 ^ b / 18446744073709551616 : Nat) : Int) := by
    rw [high_form y b hb]; simp
  have h1 := high_lt y b hy
  have h2 := low_form x b hb
  have h5 := low_add x y b hb hy
  rw [sh_eq, e1, bits_or_u64_nat _ _ (by omega) (by omega)]
  have h3 := Nat.two_pow_add_eq_or_of_lt h1 (x % 2 ^ (64 - b))
  rw [← h2] at h3
  rw [h3]

/-- The limbs of X times 2^b: what each place holds. -/
def Y0 (x0 b : Nat) : Nat := x0 * 2 ^ b % 18446744073709551616
def Y1 (x y b : Nat) : Nat := x * 2 ^ b % 18446744073709551616 + y * 2 ^ b / 18446744073709551616
theorem wrap_Y1 (x y : Nat) (hy : y < 18446744073709551616) : IntKind.u64.wrap (x : Int) = ((Y1 x y 0 : Nat) : Int) := by
  unfold Y1
  rw [IntKind.wrap_u64, Nat.pow_zero, Nat.mul_one, Nat.mul_one]
  omega
theorem Y0_lt (x b : Nat) : Y0 x b < 18446744073709551616 := Nat.mod_lt _ (by omega)
theorem Y1_lt (x y b : Nat) (hb : b ≤ 64) (hy : y < 18446744073709551616) : Y1 x y b < 18446744073709551616 := low_add x y b hb hy

theorem val_shl {X x0 x1 x2 x3 : Nat} (b : Nat) (h : Lm X x0 x1 x2 x3) :
    X * 2 ^ b = Y0 x0 b + 18446744073709551616 * Y1 x1 x0 b + 340282366920938463463374607431768211456 * Y1 x2 x1 b + 6277101735386680763835789423207666416102355444464034512896 * Y1 x3 x2 b + 115792089237316195423570985008687907853269984665640564039457584007913129639936 * (x3 * 2 ^ b / 18446744073709551616) := by
  rw [← h.val, Nat.add_mul, Nat.add_mul, Nat.add_mul, Nat.mul_assoc, Nat.mul_assoc, Nat.mul_assoc]
  unfold Y0 Y1
  generalize x0 * 2 ^ b = e0
  generalize x1 * 2 ^ b = e1
  generalize x2 * 2 ^ b = e2
  generalize x3 * 2 ^ b = e3
  omega

theorem lm_shl0 {X x0 x1 x2 x3 b : Nat} (hb : b ≤ 64) (h : Lm X x0 x1 x2 x3) (hT : X * 2 ^ b * 1 < 115792089237316195423570985008687907853269984665640564039457584007913129639936) : Lm (X * 2 ^ b * 1) (Y0 x0 b) (Y1 x1 x0 b) (Y1 x2 x1 b) (Y1 x3 x2 b) := by
  have hv := val_shl b h
  refine ⟨Y0_lt _ _, Y1_lt _ _ _ hb h.b0, Y1_lt _ _ _ hb h.b1, Y1_lt _ _ _ hb h.b2, ?_⟩
  generalize X * 2 ^ b = E at *
  generalize Y0 x0 b = z0 at *
  generalize Y1 x1 x0 b = z1 at *
  generalize Y1 x2 x1 b = z2 at *
  generalize Y1 x3 x2 b = z3 at *
  generalize x3 * 2 ^ b / 18446744073709551616 = z4 at *
  omega
theorem lm_shl1 {X x0 x1 x2 x3 b : Nat} (hb : b ≤ 64) (h : Lm X x0 x1 x2 x3) (hT : X * 2 ^ b * 18446744073709551616 < 115792089237316195423570985008687907853269984665640564039457584007913129639936) : Lm (X * 2 ^ b * 18446744073709551616) 0 (Y0 x0 b) (Y1 x1 x0 b) (Y1 x2 x1 b) := by
  have hv := val_shl b h
  refine ⟨by omega, Y0_lt _ _, Y1_lt _ _ _ hb h.b0, Y1_lt _ _ _ hb h.b1, ?_⟩
  generalize X * 2 ^ b = E at *
  generalize Y0 x0 b = z0 at *
  generalize Y1 x1 x0 b = z1 at *
  generalize Y1 x2 x1 b = z2 at *
  generalize Y1 x3 x2 b = z3 at *
  generalize x3 * 2 ^ b / 18446744073709551616 = z4 at *
  omega
theorem lm_shl2 {X x0 x1 x2 x3 b : Nat} (hb : b ≤ 64) (h : Lm X x0 x1 x2 x3) (hT : X * 2 ^ b * 340282366920938463463374607431768211456 < 115792089237316195423570985008687907853269984665640564039457584007913129639936) : Lm (X * 2 ^ b * 340282366920938463463374607431768211456) 0 0 (Y0 x0 b) (Y1 x1 x0 b) := by
  have hv := val_shl b h
  refine ⟨by omega, by omega, Y0_lt _ _, Y1_lt _ _ _ hb h.b0, ?_⟩
  generalize X * 2 ^ b = E at *
  generalize Y0 x0 b = z0 at *
  generalize Y1 x1 x0 b = z1 at *
  generalize Y1 x2 x1 b = z2 at *
  generalize Y1 x3 x2 b = z3 at *
  generalize x3 * 2 ^ b / 18446744073709551616 = z4 at *
  omega
theorem lm_shl3 {X x0 x1 x2 x3 b : Nat} (hb : b ≤ 64) (h : Lm X x0 x1 x2 x3) (hT : X * 2 ^ b * 6277101735386680763835789423207666416102355444464034512896 < 115792089237316195423570985008687907853269984665640564039457584007913129639936) : Lm (X * 2 ^ b * 6277101735386680763835789423207666416102355444464034512896) 0 0 0 (Y0 x0 b) := by
  have hv := val_shl b h
  refine ⟨by omega, by omega, by omega, Y0_lt _ _, ?_⟩
  generalize X * 2 ^ b = E at *
  generalize Y0 x0 b = z0 at *
  generalize Y1 x1 x0 b = z1 at *
  generalize Y1 x2 x1 b = z2 at *
  generalize Y1 x3 x2 b = z3 at *
  generalize x3 * 2 ^ b / 18446744073709551616 = z4 at *
  omega

set_option maxHeartbeats 1000000 in
theorem shl_loop0 (X x0 x1 x2 x3 s b : Nat) (w : World) (h0 : x0 < 18446744073709551616) (h1 : x1 < 18446744073709551616) (h2 : x2 < 18446744073709551616) (hs : s = 64 * 0 + b) (hb : b < 64) :
    Calls Trym.prog 22 #[.agg #[.int .u64 x0, .int .u64 x1, .int .u64 x2, .int .u64 x3], .int .i64 s] w fun e w' => e = .returned (.agg #[.int .u64 (Y0 x0 b : Nat), .int .u64 (Y1 x1 x0 b : Nat), .int .u64 (Y1 x2 x1 b : Nat), .int .u64 (Y1 x3 x2 b : Nat)]) ∧ Below w.heap.size w w' ∧ Grown w w' := by
  have hs256 : s < 256 := by omega
  have e6 : s / 64 = 0 := by omega
  have e7 : s % 64 = b := by omega
  have H6 : Hid (s / 64 = 0 ∧ s % 64 = b) := ⟨e6, e7⟩
  have HX : Hid (x0 < 18446744073709551616 ∧ x1 < 18446744073709551616 ∧ x2 < 18446744073709551616) := ⟨h0, h1, h2⟩
  clear hs e6 e7 h0 h1 h2
  go_enter Trym.func22, Trym.ntmps22
  go_upto_region 2 with fail
  go_cut [6] (fun v wx => ((w.alloc (.cells #[.int .u64 x0, .int .u64 x1, .int .u64 x2, .int .u64 x3] 34)).alloc (.cells #[.int .u64 0, .int .u64 0, .int .u64 0, .int .u64 0] 34)).alloc (.cells #[.int .u64 0, .int .u64 0, .int .u64 0, .int .u64 0] 34) = wx ∧ v = .int .i64 0)
  case first =>
    go_wp2
    go_meet
    case rel => exact ⟨rfl, by have := H6.out.1; go_num⟩
  case rest =>
    obtain ⟨rfl, rfl⟩ := hcut
    go_upto_region 3 with fail
    go_cut [7] (fun v wx => ((w.alloc (.cells #[.int .u64 x0, .int .u64 x1, .int .u64 x2, .int .u64 x3] 34)).alloc (.cells #[.int .u64 0, .int .u64 0, .int .u64 0, .int .u64 0] 34)).alloc (.cells #[.int .u64 0, .int .u64 0, .int .u64 0, .int .u64 0] 34) = wx ∧ v = .int .u64 b)
    case first =>
      go_wp2
      go_meet
      case rel => exact ⟨rfl, by have := H6.out.2; go_num⟩
    case rest =>
      obtain ⟨rfl, rfl⟩ := hcut
      go_wp2
      go_loopg [8] 4 (fun g vi wx => (g = 4 ∧ vi = .int .i64 (3) ∧ ((w.alloc (.cells #[.int .u64 x0, .int .u64 x1, .int .u64 x2, .int .u64 x3] 34)).alloc (.cells #[.int .u64 0, .int .u64 0, .int .u64 0, .int .u64 0] 34)).alloc (.cells #[.int .u64 0, .int .u64 0, .int .u64 0, .int .u64 0] 34) = wx) ∨ (g = 3 ∧ vi = .int .i64 (2) ∧ ((w.alloc (.cells #[.int .u64 x0, .int .u64 x1, .int .u64 x2, .int .u64 x3] 34)).alloc (.cells #[.int .u64 0, .int .u64 0, .int .u64 0, .int .u64 0] 34)).alloc (.cells #[.int .u64 0, .int .u64 0, .int .u64 0, .int .u64 (Y1 x3 x2 b : Nat)] 34) = wx) ∨ (g = 2 ∧ vi = .int .i64 (1) ∧ ((w.alloc (.cells #[.int .u64 x0, .int .u64 x1, .int .u64 x2, .int .u64 x3] 34)).alloc (.cells #[.int .u64 0, .int .u64 0, .int .u64 0, .int .u64 0] 34)).alloc (.cells #[.int .u64 0, .int .u64 0, .int .u64 (Y1 x2 x1 b : Nat), .int .u64 (Y1 x3 x2 b : Nat)] 34) = wx) ∨ (g = 1 ∧ vi = .int .i64 (0) ∧ ((w.alloc (.cells #[.int .u64 x0, .int .u64 x1, .int .u64 x2, .int .u64 x3] 34)).alloc (.cells #[.int .u64 0, .int .u64 0, .int .u64 0, .int .u64 0] 34)).alloc (.cells #[.int .u64 0, .int .u64 (Y1 x1 x0 b : Nat), .int .u64 (Y1 x2 x1 b : Nat), .int .u64 (Y1 x3 x2 b : Nat)] 34) = wx) ∨ (g = 0 ∧ vi = .int .i64 (-1) ∧ ((w.alloc (.cells #[.int .u64 x0, .int .u64 x1, .int .u64 x2, .int .u64 x3] 34)).alloc (.cells #[.int .u64 0, .int .u64 0, .int .u64 0, .int .u64 0] 34)).alloc (.cells #[.int .u64 (Y0 x0 b : Nat), .int .u64 (Y1 x1 x0 b : Nat), .int .u64 (Y1 x2 x1 b : Nat), .int .u64 (Y1 x3 x2 b : Nat)] 34) = wx))
      case atStart => exact .inl ⟨rfl, rfl, rfl⟩
      case round =>
        rcases hrel with ⟨rfl, rfl, rfl⟩ | ⟨rfl, rfl, rfl⟩ | ⟨rfl, rfl, rfl⟩ | ⟨rfl, rfl, rfl⟩ | ⟨rfl, rfl, rfl⟩
        · have HE : Hid (bits BinOp.or IntKind.u64 (IntKind.u64.wrap ((x3 : Int) * 2 ^ b)) ((x2 : Int) / 2 ^ (64 - b)) = ((Y1 x3 x2 b : Nat) : Int)) := or_eq x3 x2 b (by omega) HX.out.2.2
          by_cases hb0 : 0 < b
          · go_wp2
            go_roundg 3
            case measure => omega
            case rel =>
              refine .inr (.inl ⟨rfl, by go_num, ?_⟩)
              rw [HE.out]
          · obtain rfl : b = 0 := by omega
            go_wp2
            go_roundg 3
            case measure => omega
            case rel =>
              refine .inr (.inl ⟨rfl, by go_num, ?_⟩)
              rw [wrap_Y1 x3 x2 HX.out.2.2]
        · have HE : Hid (bits BinOp.or IntKind.u64 (IntKind.u64.wrap ((x2 : Int) * 2 ^ b)) ((x1 : Int) / 2 ^ (64 - b)) = ((Y1 x2 x1 b : Nat) : Int)) := or_eq x2 x1 b (by omega) HX.out.2.1
          by_cases hb0 : 0 < b
          · go_wp2
            go_roundg 2
            case measure => omega
            case rel =>
              refine .inr (.inr (.inl ⟨rfl, by go_num, ?_⟩))
              rw [HE.out]
          · obtain rfl : b = 0 := by omega
            go_wp2
            go_roundg 2
            case measure => omega
            case rel =>
              refine .inr (.inr (.inl ⟨rfl, by go_num, ?_⟩))
              rw [wrap_Y1 x2 x1 HX.out.2.1]
        · have HE : Hid (bits BinOp.or IntKind.u64 (IntKind.u64.wrap ((x1 : Int) * 2 ^ b)) ((x0 : Int) / 2 ^ (64 - b)) = ((Y1 x1 x0 b : Nat) : Int)) := or_eq x1 x0 b (by omega) HX.out.1
          by_cases hb0 : 0 < b
          · go_wp2
            go_roundg 1
            case measure => omega
            case rel =>
              refine .inr (.inr (.inr (.inl ⟨rfl, by go_num, ?_⟩)))
              rw [HE.out]
          · obtain rfl : b = 0 := by omega
            go_wp2
            go_roundg 1
            case measure => omega
            case rel =>
              refine .inr (.inr (.inr (.inl ⟨rfl, by go_num, ?_⟩)))
              rw [wrap_Y1 x1 x0 HX.out.1]
        · have eq : IntKind.u64.wrap ((x0 : Int) * 2 ^ b) = ((Y0 x0 b : Nat) : Int) := sh_eq x0 b
          have HE : Hid (IntKind.u64.wrap ((x0 : Int) * 2 ^ b) = ((Y0 x0 b : Nat) : Int)) := eq
          clear eq
          by_cases hb0 : 0 < b
          · go_wp2
            go_roundg 0
            case measure => omega
            case rel =>
              refine .inr (.inr (.inr (.inr ⟨rfl, by go_num, ?_⟩)))
              rw [HE.out]
          · obtain rfl : b = 0 := by omega
            have HE0 : Hid ((Y0 x0 0 : Nat) = x0) := by unfold Hid Y0; have := HX.out.1; omega
            have hx0 := HX.out.1
            go_wp2
            go_roundg 0
            case measure => omega
            case rel =>
              refine .inr (.inr (.inr (.inr ⟨rfl, by go_num, ?_⟩)))
              rw [HE0.out]
        · go_wp2_with fail
          refine bodyPost_ret (v := .agg #[.int .u64 (Y0 x0 b : Nat), .int .u64 (Y1 x1 x0 b : Nat), .int .u64 (Y1 x2 x1 b : Nat), .int .u64 (Y1 x3 x2 b : Nat)]) (by simp [results, Trym.results22, go_sem]) rfl ⟨rfl, ?_, ?_⟩
          · exact (((Below.refl _ _).alloc (Nat.le_refl _) _).alloc (by simp) _).alloc (by simp; omega) _
          · exact (((Grown.refl _).alloc _ _).alloc _ _).alloc _ _

set_option maxHeartbeats 1000000 in
theorem shl_loop1 (X x0 x1 x2 x3 s b : Nat) (w : World) (h0 : x0 < 18446744073709551616) (h1 : x1 < 18446744073709551616) (h2 : x2 < 18446744073709551616) (hs : s = 64 * 1 + b) (hb : b < 64) :
    Calls Trym.prog 22 #[.agg #[.int .u64 x0, .int .u64 x1, .int .u64 x2, .int .u64 x3], .int .i64 s] w fun e w' => e = .returned (.agg #[.int .u64 0, .int .u64 (Y0 x0 b : Nat), .int .u64 (Y1 x1 x0 b : Nat), .int .u64 (Y1 x2 x1 b : Nat)]) ∧ Below w.heap.size w w' ∧ Grown w w' := by
  have hs256 : s < 256 := by omega
  have e6 : s / 64 = 1 := by omega
  have e7 : s % 64 = b := by omega
  have H6 : Hid (s / 64 = 1 ∧ s % 64 = b) := ⟨e6, e7⟩
  have HX : Hid (x0 < 18446744073709551616 ∧ x1 < 18446744073709551616 ∧ x2 < 18446744073709551616) := ⟨h0, h1, h2⟩
  clear hs e6 e7 h0 h1 h2
  go_enter Trym.func22, Trym.ntmps22
  go_upto_region 2 with fail
  go_cut [6] (fun v wx => ((w.alloc (.cells #[.int .u64 x0, .int .u64 x1, .int .u64 x2, .int .u64 x3] 34)).alloc (.cells #[.int .u64 0, .int .u64 0, .int .u64 0, .int .u64 0] 34)).alloc (.cells #[.int .u64 0, .int .u64 0, .int .u64 0, .int .u64 0] 34) = wx ∧ v = .int .i64 1)
  case first =>
    go_wp2
    go_meet
    case rel => exact ⟨rfl, by have := H6.out.1; go_num⟩
  case rest =>
    obtain ⟨rfl, rfl⟩ := hcut
    go_upto_region 3 with fail
    go_cut [7] (fun v wx => ((w.alloc (.cells #[.int .u64 x0, .int .u64 x1, .int .u64 x2, .int .u64 x3] 34)).alloc (.cells #[.int .u64 0, .int .u64 0, .int .u64 0, .int .u64 0] 34)).alloc (.cells #[.int .u64 0, .int .u64 0, .int .u64 0, .int .u64 0] 34) = wx ∧ v = .int .u64 b)
    case first =>
      go_wp2
      go_meet
      case rel => exact ⟨rfl, by have := H6.out.2; go_num⟩
    case rest =>
      obtain ⟨rfl, rfl⟩ := hcut
      go_wp2
      go_loopg [8] 3 (fun g vi wx => (g = 3 ∧ vi = .int .i64 (3) ∧ ((w.alloc (.cells #[.int .u64 x0, .int .u64 x1, .int .u64 x2, .int .u64 x3] 34)).alloc (.cells #[.int .u64 0, .int .u64 0, .int .u64 0, .int .u64 0] 34)).alloc (.cells #[.int .u64 0, .int .u64 0, .int .u64 0, .int .u64 0] 34) = wx) ∨ (g = 2 ∧ vi = .int .i64 (2) ∧ ((w.alloc (.cells #[.int .u64 x0, .int .u64 x1, .int .u64 x2, .int .u64 x3] 34)).alloc (.cells #[.int .u64 0, .int .u64 0, .int .u64 0, .int .u64 0] 34)).alloc (.cells #[.int .u64 0, .int .u64 0, .int .u64 0, .int .u64 (Y1 x2 x1 b : Nat)] 34) = wx) ∨ (g = 1 ∧ vi = .int .i64 (1) ∧ ((w.alloc (.cells #[.int .u64 x0, .int .u64 x1, .int .u64 x2, .int .u64 x3] 34)).alloc (.cells #[.int .u64 0, .int .u64 0, .int .u64 0, .int .u64 0] 34)).alloc (.cells #[.int .u64 0, .int .u64 0, .int .u64 (Y1 x1 x0 b : Nat), .int .u64 (Y1 x2 x1 b : Nat)] 34) = wx) ∨ (g = 0 ∧ vi = .int .i64 (0) ∧ ((w.alloc (.cells #[.int .u64 x0, .int .u64 x1, .int .u64 x2, .int .u64 x3] 34)).alloc (.cells #[.int .u64 0, .int .u64 0, .int .u64 0, .int .u64 0] 34)).alloc (.cells #[.int .u64 0, .int .u64 (Y0 x0 b : Nat), .int .u64 (Y1 x1 x0 b : Nat), .int .u64 (Y1 x2 x1 b : Nat)] 34) = wx))
      case atStart => exact .inl ⟨rfl, rfl, rfl⟩
      case round =>
        rcases hrel with ⟨rfl, rfl, rfl⟩ | ⟨rfl, rfl, rfl⟩ | ⟨rfl, rfl, rfl⟩ | ⟨rfl, rfl, rfl⟩
        · have HE : Hid (bits BinOp.or IntKind.u64 (IntKind.u64.wrap ((x2 : Int) * 2 ^ b)) ((x1 : Int) / 2 ^ (64 - b)) = ((Y1 x2 x1 b : Nat) : Int)) := or_eq x2 x1 b (by omega) HX.out.2.1
          by_cases hb0 : 0 < b
          · go_wp2
            go_roundg 2
            case measure => omega
            case rel =>
              refine .inr (.inl ⟨rfl, by go_num, ?_⟩)
              rw [HE.out]
          · obtain rfl : b = 0 := by omega
            go_wp2
            go_roundg 2
            case measure => omega
            case rel =>
              refine .inr (.inl ⟨rfl, by go_num, ?_⟩)
              rw [wrap_Y1 x2 x1 HX.out.2.1]
        · have HE : Hid (bits BinOp.or IntKind.u64 (IntKind.u64.wrap ((x1 : Int) * 2 ^ b)) ((x0 : Int) / 2 ^ (64 - b)) = ((Y1 x1 x0 b : Nat) : Int)) := or_eq x1 x0 b (by omega) HX.out.1
          by_cases hb0 : 0 < b
          · go_wp2
            go_roundg 1
            case measure => omega
            case rel =>
              refine .inr (.inr (.inl ⟨rfl, by go_num, ?_⟩))
              rw [HE.out]
          · obtain rfl : b = 0 := by omega
            go_wp2
            go_roundg 1
            case measure => omega
            case rel =>
              refine .inr (.inr (.inl ⟨rfl, by go_num, ?_⟩))
              rw [wrap_Y1 x1 x0 HX.out.1]
        · have eq : IntKind.u64.wrap ((x0 : Int) * 2 ^ b) = ((Y0 x0 b : Nat) : Int) := sh_eq x0 b
          have HE : Hid (IntKind.u64.wrap ((x0 : Int) * 2 ^ b) = ((Y0 x0 b : Nat) : Int)) := eq
          clear eq
          by_cases hb0 : 0 < b
          · go_wp2
            go_roundg 0
            case measure => omega
            case rel =>
              refine .inr (.inr (.inr ⟨rfl, by go_num, ?_⟩))
              rw [HE.out]
          · obtain rfl : b = 0 := by omega
            have HE0 : Hid ((Y0 x0 0 : Nat) = x0) := by unfold Hid Y0; have := HX.out.1; omega
            have hx0 := HX.out.1
            go_wp2
            go_roundg 0
            case measure => omega
            case rel =>
              refine .inr (.inr (.inr ⟨rfl, by go_num, ?_⟩))
              rw [HE0.out]
        · go_wp2_with fail
          refine bodyPost_ret (v := .agg #[.int .u64 0, .int .u64 (Y0 x0 b : Nat), .int .u64 (Y1 x1 x0 b : Nat), .int .u64 (Y1 x2 x1 b : Nat)]) (by simp [results, Trym.results22, go_sem]) rfl ⟨rfl, ?_, ?_⟩
          · exact (((Below.refl _ _).alloc (Nat.le_refl _) _).alloc (by simp) _).alloc (by simp; omega) _
          · exact (((Grown.refl _).alloc _ _).alloc _ _).alloc _ _

set_option maxHeartbeats 1000000 in
theorem shl_loop2 (X x0 x1 x2 x3 s b : Nat) (w : World) (h0 : x0 < 18446744073709551616) (h1 : x1 < 18446744073709551616) (h2 : x2 < 18446744073709551616) (hs : s = 64 * 2 + b) (hb : b < 64) :
    Calls Trym.prog 22 #[.agg #[.int .u64 x0, .int .u64 x1, .int .u64 x2, .int .u64 x3], .int .i64 s] w fun e w' => e = .returned (.agg #[.int .u64 0, .int .u64 0, .int .u64 (Y0 x0 b : Nat), .int .u64 (Y1 x1 x0 b : Nat)]) ∧ Below w.heap.size w w' ∧ Grown w w' := by
  have hs256 : s < 256 := by omega
  have e6 : s / 64 = 2 := by omega
  have e7 : s % 64 = b := by omega
  have H6 : Hid (s / 64 = 2 ∧ s % 64 = b) := ⟨e6, e7⟩
  have HX : Hid (x0 < 18446744073709551616 ∧ x1 < 18446744073709551616 ∧ x2 < 18446744073709551616) := ⟨h0, h1, h2⟩
  clear hs e6 e7 h0 h1 h2
  go_enter Trym.func22, Trym.ntmps22
  go_upto_region 2 with fail
  go_cut [6] (fun v wx => ((w.alloc (.cells #[.int .u64 x0, .int .u64 x1, .int .u64 x2, .int .u64 x3] 34)).alloc (.cells #[.int .u64 0, .int .u64 0, .int .u64 0, .int .u64 0] 34)).alloc (.cells #[.int .u64 0, .int .u64 0, .int .u64 0, .int .u64 0] 34) = wx ∧ v = .int .i64 2)
  case first =>
    go_wp2
    go_meet
    case rel => exact ⟨rfl, by have := H6.out.1; go_num⟩
  case rest =>
    obtain ⟨rfl, rfl⟩ := hcut
    go_upto_region 3 with fail
    go_cut [7] (fun v wx => ((w.alloc (.cells #[.int .u64 x0, .int .u64 x1, .int .u64 x2, .int .u64 x3] 34)).alloc (.cells #[.int .u64 0, .int .u64 0, .int .u64 0, .int .u64 0] 34)).alloc (.cells #[.int .u64 0, .int .u64 0, .int .u64 0, .int .u64 0] 34) = wx ∧ v = .int .u64 b)
    case first =>
      go_wp2
      go_meet
      case rel => exact ⟨rfl, by have := H6.out.2; go_num⟩
    case rest =>
      obtain ⟨rfl, rfl⟩ := hcut
      go_wp2
      go_loopg [8] 2 (fun g vi wx => (g = 2 ∧ vi = .int .i64 (3) ∧ ((w.alloc (.cells #[.int .u64 x0, .int .u64 x1, .int .u64 x2, .int .u64 x3] 34)).alloc (.cells #[.int .u64 0, .int .u64 0, .int .u64 0, .int .u64 0] 34)).alloc (.cells #[.int .u64 0, .int .u64 0, .int .u64 0, .int .u64 0] 34) = wx) ∨ (g = 1 ∧ vi = .int .i64 (2) ∧ ((w.alloc (.cells #[.int .u64 x0, .int .u64 x1, .int .u64 x2, .int .u64 x3] 34)).alloc (.cells #[.int .u64 0, .int .u64 0, .int .u64 0, .int .u64 0] 34)).alloc (.cells #[.int .u64 0, .int .u64 0, .int .u64 0, .int .u64 (Y1 x1 x0 b : Nat)] 34) = wx) ∨ (g = 0 ∧ vi = .int .i64 (1) ∧ ((w.alloc (.cells #[.int .u64 x0, .int .u64 x1, .int .u64 x2, .int .u64 x3] 34)).alloc (.cells #[.int .u64 0, .int .u64 0, .int .u64 0, .int .u64 0] 34)).alloc (.cells #[.int .u64 0, .int .u64 0, .int .u64 (Y0 x0 b : Nat), .int .u64 (Y1 x1 x0 b : Nat)] 34) = wx))
      case atStart => exact .inl ⟨rfl, rfl, rfl⟩
      case round =>
        rcases hrel with ⟨rfl, rfl, rfl⟩ | ⟨rfl, rfl, rfl⟩ | ⟨rfl, rfl, rfl⟩
        · have HE : Hid (bits BinOp.or IntKind.u64 (IntKind.u64.wrap ((x1 : Int) * 2 ^ b)) ((x0 : Int) / 2 ^ (64 - b)) = ((Y1 x1 x0 b : Nat) : Int)) := or_eq x1 x0 b (by omega) HX.out.1
          by_cases hb0 : 0 < b
          · go_wp2
            go_roundg 1
            case measure => omega
            case rel =>
              refine .inr (.inl ⟨rfl, by go_num, ?_⟩)
              rw [HE.out]
          · obtain rfl : b = 0 := by omega
            go_wp2
            go_roundg 1
            case measure => omega
            case rel =>
              refine .inr (.inl ⟨rfl, by go_num, ?_⟩)
              rw [wrap_Y1 x1 x0 HX.out.1]
        · have eq : IntKind.u64.wrap ((x0 : Int) * 2 ^ b) = ((Y0 x0 b : Nat) : Int) := sh_eq x0 b
          have HE : Hid (IntKind.u64.wrap ((x0 : Int) * 2 ^ b) = ((Y0 x0 b : Nat) : Int)) := eq
          clear eq
          by_cases hb0 : 0 < b
          · go_wp2
            go_roundg 0
            case measure => omega
            case rel =>
              refine .inr (.inr ⟨rfl, by go_num, ?_⟩)
              rw [HE.out]
          · obtain rfl : b = 0 := by omega
            have HE0 : Hid ((Y0 x0 0 : Nat) = x0) := by unfold Hid Y0; have := HX.out.1; omega
            have hx0 := HX.out.1
            go_wp2
            go_roundg 0
            case measure => omega
            case rel =>
              refine .inr (.inr ⟨rfl, by go_num, ?_⟩)
              rw [HE0.out]
        · go_wp2_with fail
          refine bodyPost_ret (v := .agg #[.int .u64 0, .int .u64 0, .int .u64 (Y0 x0 b : Nat), .int .u64 (Y1 x1 x0 b : Nat)]) (by simp [results, Trym.results22, go_sem]) rfl ⟨rfl, ?_, ?_⟩
          · exact (((Below.refl _ _).alloc (Nat.le_refl _) _).alloc (by simp) _).alloc (by simp; omega) _
          · exact (((Grown.refl _).alloc _ _).alloc _ _).alloc _ _

set_option maxHeartbeats 1000000 in
theorem shl_loop3 (X x0 x1 x2 x3 s b : Nat) (w : World) (h0 : x0 < 18446744073709551616) (h1 : x1 < 18446744073709551616) (h2 : x2 < 18446744073709551616) (hs : s = 64 * 3 + b) (hb : b < 64) :
    Calls Trym.prog 22 #[.agg #[.int .u64 x0, .int .u64 x1, .int .u64 x2, .int .u64 x3], .int .i64 s] w fun e w' => e = .returned (.agg #[.int .u64 0, .int .u64 0, .int .u64 0, .int .u64 (Y0 x0 b : Nat)]) ∧ Below w.heap.size w w' ∧ Grown w w' := by
  have hs256 : s < 256 := by omega
  have e6 : s / 64 = 3 := by omega
  have e7 : s % 64 = b := by omega
  have H6 : Hid (s / 64 = 3 ∧ s % 64 = b) := ⟨e6, e7⟩
  have HX : Hid (x0 < 18446744073709551616 ∧ x1 < 18446744073709551616 ∧ x2 < 18446744073709551616) := ⟨h0, h1, h2⟩
  clear hs e6 e7 h0 h1 h2
  go_enter Trym.func22, Trym.ntmps22
  go_upto_region 2 with fail
  go_cut [6] (fun v wx => ((w.alloc (.cells #[.int .u64 x0, .int .u64 x1, .int .u64 x2, .int .u64 x3] 34)).alloc (.cells #[.int .u64 0, .int .u64 0, .int .u64 0, .int .u64 0] 34)).alloc (.cells #[.int .u64 0, .int .u64 0, .int .u64 0, .int .u64 0] 34) = wx ∧ v = .int .i64 3)
  case first =>
    go_wp2
    go_meet
    case rel => exact ⟨rfl, by have := H6.out.1; go_num⟩
  case rest =>
    obtain ⟨rfl, rfl⟩ := hcut
    go_upto_region 3 with fail
    go_cut [7] (fun v wx => ((w.alloc (.cells #[.int .u64 x0, .int .u64 x1, .int .u64 x2, .int .u64 x3] 34)).alloc (.cells #[.int .u64 0, .int .u64 0, .int .u64 0, .int .u64 0] 34)).alloc (.cells #[.int .u64 0, .int .u64 0, .int .u64 0, .int .u64 0] 34) = wx ∧ v = .int .u64 b)
    case first =>
      go_wp2
      go_meet
      case rel => exact ⟨rfl, by have := H6.out.2; go_num⟩
    case rest =>
      obtain ⟨rfl, rfl⟩ := hcut
      go_wp2
      go_loopg [8] 1 (fun g vi wx => (g = 1 ∧ vi = .int .i64 (3) ∧ ((w.alloc (.cells #[.int .u64 x0, .int .u64 x1, .int .u64 x2, .int .u64 x3] 34)).alloc (.cells #[.int .u64 0, .int .u64 0, .int .u64 0, .int .u64 0] 34)).alloc (.cells #[.int .u64 0, .int .u64 0, .int .u64 0, .int .u64 0] 34) = wx) ∨ (g = 0 ∧ vi = .int .i64 (2) ∧ ((w.alloc (.cells #[.int .u64 x0, .int .u64 x1, .int .u64 x2, .int .u64 x3] 34)).alloc (.cells #[.int .u64 0, .int .u64 0, .int .u64 0, .int .u64 0] 34)).alloc (.cells #[.int .u64 0, .int .u64 0, .int .u64 0, .int .u64 (Y0 x0 b : Nat)] 34) = wx))
      case atStart => exact .inl ⟨rfl, rfl, rfl⟩
      case round =>
        rcases hrel with ⟨rfl, rfl, rfl⟩ | ⟨rfl, rfl, rfl⟩
        · have eq : IntKind.u64.wrap ((x0 : Int) * 2 ^ b) = ((Y0 x0 b : Nat) : Int) := sh_eq x0 b
          have HE : Hid (IntKind.u64.wrap ((x0 : Int) * 2 ^ b) = ((Y0 x0 b : Nat) : Int)) := eq
          clear eq
          by_cases hb0 : 0 < b
          · go_wp2
            go_roundg 0
            case measure => omega
            case rel =>
              refine .inr ⟨rfl, by go_num, ?_⟩
              rw [HE.out]
          · obtain rfl : b = 0 := by omega
            have HE0 : Hid ((Y0 x0 0 : Nat) = x0) := by unfold Hid Y0; have := HX.out.1; omega
            have hx0 := HX.out.1
            go_wp2
            go_roundg 0
            case measure => omega
            case rel =>
              refine .inr ⟨rfl, by go_num, ?_⟩
              rw [HE0.out]
        · go_wp2_with fail
          refine bodyPost_ret (v := .agg #[.int .u64 0, .int .u64 0, .int .u64 0, .int .u64 (Y0 x0 b : Nat)]) (by simp [results, Trym.results22, go_sem]) rfl ⟨rfl, ?_, ?_⟩
          · exact (((Below.refl _ _).alloc (Nat.le_refl _) _).alloc (by simp) _).alloc (by simp; omega) _
          · exact (((Grown.refl _).alloc _ _).alloc _ _).alloc _ _

/-- The shift, whatever the count below 256. -/
theorem shl_any (X x0 x1 x2 x3 s : Nat) (w : World) (h : Lm X x0 x1 x2 x3) (hs : s < 256) (hT : X * 2 ^ s < 115792089237316195423570985008687907853269984665640564039457584007913129639936) :
    Calls Trym.prog 22 #[.agg #[.int .u64 x0, .int .u64 x1, .int .u64 x2, .int .u64 x3], .int .i64 s] w fun e w' => ∃ y0 y1 y2 y3 : Nat, e = .returned (.agg #[.int .u64 y0, .int .u64 y1, .int .u64 y2, .int .u64 y3]) ∧ Lm (X * 2 ^ s) y0 y1 y2 y3 ∧ Below w.heap.size w w' ∧ Grown w w' := by
  obtain ⟨b, hb⟩ : ∃ b, b = s % 64 := ⟨_, rfl⟩
  have hb64 : b < 64 := by omega
  rcases (show s = 64 * 0 + b ∨ s = 64 * 1 + b ∨ s = 64 * 2 + b ∨ s = 64 * 3 + b by omega) with e | e | e | e
  · have ep : X * 2 ^ s = X * 2 ^ b * 1 := by
      rw [e, Nat.pow_add, Nat.mul_comm (2 ^ (64 * 0)), ← Nat.mul_assoc]
    rw [ep] at hT ⊢
    refine (shl_loop0 X x0 x1 x2 x3 s b w h.b0 h.b1 h.b2 e hb64).mono fun e w' ⟨he, hbl, hg⟩ => ⟨_, _, _, _, he, lm_shl0 (by omega) h hT, hbl, hg⟩
  · have ep : X * 2 ^ s = X * 2 ^ b * 18446744073709551616 := by
      rw [e, Nat.pow_add, Nat.mul_comm (2 ^ (64 * 1)), ← Nat.mul_assoc]
    rw [ep] at hT ⊢
    refine (shl_loop1 X x0 x1 x2 x3 s b w h.b0 h.b1 h.b2 e hb64).mono fun e w' ⟨he, hbl, hg⟩ => ⟨_, _, _, _, he, lm_shl1 (by omega) h hT, hbl, hg⟩
  · have ep : X * 2 ^ s = X * 2 ^ b * 340282366920938463463374607431768211456 := by
      rw [e, Nat.pow_add, Nat.mul_comm (2 ^ (64 * 2)), ← Nat.mul_assoc]
    rw [ep] at hT ⊢
    refine (shl_loop2 X x0 x1 x2 x3 s b w h.b0 h.b1 h.b2 e hb64).mono fun e w' ⟨he, hbl, hg⟩ => ⟨_, _, _, _, he, lm_shl2 (by omega) h hT, hbl, hg⟩
  · have ep : X * 2 ^ s = X * 2 ^ b * 6277101735386680763835789423207666416102355444464034512896 := by
      rw [e, Nat.pow_add, Nat.mul_comm (2 ^ (64 * 3)), ← Nat.mul_assoc]
    rw [ep] at hT ⊢
    refine (shl_loop3 X x0 x1 x2 x3 s b w h.b0 h.b1 h.b2 e hb64).mono fun e w' ⟨he, hbl, hg⟩ => ⟨_, _, _, _, he, lm_shl3 (by omega) h hT, hbl, hg⟩

end Go.Proofs.Qxb6600555aMods.Lim
