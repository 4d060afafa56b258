/-
  The walks of the functions on four limbs: the product with a word (18), the length in bits (20), the shift (22), the order (21).
-/
import Derived.Test.Qxb6600555aModsLimW
namespace Go.Proofs.Qxb6600555aMods.Lim
open Go.RowKit
set_option linter.unusedVariables false

/-- Four limbs, each a word, that stand for X. -/
structure Lm (X y0 y1 y2 y3 : Nat) : Prop where
  b0 : y0 < 18446744073709551616
  b1 : y1 < 18446744073709551616
  b2 : y2 < 18446744073709551616
  b3 : y3 < 18446744073709551616
  val : y0 + 18446744073709551616 * y1 + 340282366920938463463374607431768211456 * y2 + 6277101735386680763835789423207666416102355444464034512896 * y3 = X

def arr (y0 y1 y2 y3 : Nat) : Array Value := #[.int .u64 y0, .int .u64 y1, .int .u64 y2, .int .u64 y3]

/-- What the product's loop keeps. -/
structure St (x0 x1 x2 x3 b i y0 y1 y2 y3 c : Nat) : Prop where
  c0 : c < 18446744073709551616
  b0 : y0 < 18446744073709551616
  b1 : y1 < 18446744073709551616
  b2 : y2 < 18446744073709551616
  b3 : y3 < 18446744073709551616
  s0 : i = 0 → c = 0 ∧ y0 = 0 ∧ y1 = 0 ∧ y2 = 0 ∧ y3 = 0
  s1 : i = 1 → y0 + 18446744073709551616 * c = x0 * b ∧ y1 = 0 ∧ y2 = 0 ∧ y3 = 0
  s2 : i = 2 → y0 + 18446744073709551616 * y1 + 340282366920938463463374607431768211456 * c = x0 * b + 18446744073709551616 * (x1 * b) ∧ y2 = 0 ∧ y3 = 0
  s3 : i = 3 → y0 + 18446744073709551616 * y1 + 340282366920938463463374607431768211456 * y2 + 6277101735386680763835789423207666416102355444464034512896 * c = x0 * b + 18446744073709551616 * (x1 * b) + 340282366920938463463374607431768211456 * (x2 * b) ∧ y3 = 0
  s4 : i = 4 → y0 + 18446744073709551616 * y1 + 340282366920938463463374607431768211456 * y2 + 6277101735386680763835789423207666416102355444464034512896 * y3 + 115792089237316195423570985008687907853269984665640564039457584007913129639936 * c = x0 * b + 18446744073709551616 * (x1 * b) + 340282366920938463463374607431768211456 * (x2 * b) + 6277101735386680763835789423207666416102355444464034512896 * (x3 * b)

theorem step_bound (x b c : Nat) (hx : x < 18446744073709551616) (hb : b < 18446744073709551616) (hc : c < 18446744073709551616) : (x * b + c) / 18446744073709551616 < 18446744073709551616 := by
  have := Nat.mul_le_mul (Nat.le_of_lt_succ hx) (Nat.le_of_lt_succ hb)
  omega

theorem lm_mul {X x0 x1 x2 x3 b y0 y1 y2 y3 c : Nat} (hX : Lm X x0 x1 x2 x3) (hb : X * b < 115792089237316195423570985008687907853269984665640564039457584007913129639936) (h : St x0 x1 x2 x3 b 4 y0 y1 y2 y3 c) : Lm (X * b) y0 y1 y2 y3 := by
  have h4 := h.s4 rfl
  have e : X * b = x0 * b + 18446744073709551616 * (x1 * b) + 340282366920938463463374607431768211456 * (x2 * b) + 6277101735386680763835789423207666416102355444464034512896 * (x3 * b) := by
    rw [← hX.val, Nat.add_mul, Nat.add_mul, Nat.add_mul, Nat.mul_assoc, Nat.mul_assoc, Nat.mul_assoc]
  rw [← e] at h4
  refine ⟨h.b0, h.b1, h.b2, h.b3, ?_⟩
  generalize X * b = T at *
  have hc : c = 0 := by omega
  subst hc
  omega

theorem st_1 {x0 x1 x2 x3 b y0 y1 y2 y3 c s h : Nat} (H : St x0 x1 x2 x3 b 0 y0 y1 y2 y3 c) (hs : s < 18446744073709551616) (hh : h < 18446744073709551616) (F : s + 18446744073709551616 * h = x0 * b + c) : St x0 x1 x2 x3 b 1 s y1 y2 y3 h := by
  obtain ⟨e0, e1, e2, e3, e4⟩ := H.s0 rfl
  exact ⟨hh, hs, H.b1, H.b2, H.b3, fun h => by omega, fun _ => ⟨by omega, e2, e3, e4⟩, fun h => by omega, fun h => by omega, fun h => by omega⟩
theorem st_2 {x0 x1 x2 x3 b y0 y1 y2 y3 c s h : Nat} (H : St x0 x1 x2 x3 b 1 y0 y1 y2 y3 c) (hs : s < 18446744073709551616) (hh : h < 18446744073709551616) (F : s + 18446744073709551616 * h = x1 * b + c) : St x0 x1 x2 x3 b 2 y0 s y2 y3 h := by
  obtain ⟨e0, e1, e2, e3⟩ := H.s1 rfl
  exact ⟨hh, H.b0, hs, H.b2, H.b3, fun h => by omega, fun h => by omega, fun _ => ⟨by omega, e2, e3⟩, fun h => by omega, fun h => by omega⟩
theorem st_3 {x0 x1 x2 x3 b y0 y1 y2 y3 c s h : Nat} (H : St x0 x1 x2 x3 b 2 y0 y1 y2 y3 c) (hs : s < 18446744073709551616) (hh : h < 18446744073709551616) (F : s + 18446744073709551616 * h = x2 * b + c) : St x0 x1 x2 x3 b 3 y0 y1 s y3 h := by
  obtain ⟨e0, e1, e2⟩ := H.s2 rfl
  exact ⟨hh, H.b0, H.b1, hs, H.b3, fun h => by omega, fun h => by omega, fun h => by omega, fun _ => ⟨by omega, e2⟩, fun h => by omega⟩
theorem st_4 {x0 x1 x2 x3 b y0 y1 y2 y3 c s h : Nat} (H : St x0 x1 x2 x3 b 3 y0 y1 y2 y3 c) (hs : s < 18446744073709551616) (hh : h < 18446744073709551616) (F : s + 18446744073709551616 * h = x3 * b + c) : St x0 x1 x2 x3 b 4 y0 y1 y2 s h := by
  obtain ⟨e0, e1⟩ := H.s3 rfl
  exact ⟨hh, H.b0, H.b1, H.b2, hs, fun h => by omega, fun h => by omega, fun h => by omega, fun h => by omega, fun _ => by omega⟩

/-- One word's product, as two words and a carry. -/
theorem mul64_ex (a b : Nat) (w : World) (ha : a < 18446744073709551616) (hb : b < 18446744073709551616) :
    Calls Trym.prog 23 #[.int .u64 a, .int .u64 b] w fun e w' => ∃ h l : Nat, e = .returned (.tuple #[.int .u64 h, .int .u64 l]) ∧ w = w' ∧ l < 18446744073709551616 ∧ h + 1 < 18446744073709551616 ∧ l + 18446744073709551616 * h = a * b := by
  refine (mul64_any a b w ha hb).mono fun e w' ⟨he, hw⟩ => ⟨_, _, he, hw, ?_, ?_, ?_⟩
  · omega
  · have := Nat.mul_le_mul (Nat.le_of_lt_succ ha) (Nat.le_of_lt_succ hb)
    omega
  · omega

/-- The sum with the carry, as the program writes it. -/
theorem carry_cases (h l c p : Nat) (hl : l < 18446744073709551616) (hh : h + 1 < 18446744073709551616) (hc : c < 18446744073709551616) (F : l + 18446744073709551616 * h = p) :
    (∃ s : Nat, IntKind.u64.wrap ((l : Int) + (c : Int)) = (s : Int) ∧ (l : Int) ≤ (s : Int) ∧ s < 18446744073709551616 ∧ s + 18446744073709551616 * h = p + c) ∨
    (∃ s : Nat, IntKind.u64.wrap ((l : Int) + (c : Int)) = (s : Int) ∧ (s : Int) < (l : Int) ∧ s < 18446744073709551616 ∧ s + 18446744073709551616 * (h + 1) = p + c) := by
  by_cases hov : l + c < 18446744073709551616
  · exact .inl ⟨l + c, by rw [IntKind.wrap_u64]; omega, by omega, hov, by omega⟩
  · exact .inr ⟨l + c - 18446744073709551616, by rw [IntKind.wrap_u64]; omega, by omega, by omega, by omega⟩

set_option maxHeartbeats 1000000 in
theorem mulsmall_any (X x0 x1 x2 x3 b : Nat) (w : World) (hX : Lm X x0 x1 x2 x3) (hb : b < 18446744073709551616) (hXb : X * b < 115792089237316195423570985008687907853269984665640564039457584007913129639936) :
    Calls Trym.prog 18 #[.agg #[.int .u64 x0, .int .u64 x1, .int .u64 x2, .int .u64 x3], .int .u64 b] w fun e w' =>
      ∃ y0 y1 y2 y3 : Nat, e = .returned (.agg #[.int .u64 y0, .int .u64 y1, .int .u64 y2, .int .u64 y3]) ∧ Lm (X * b) y0 y1 y2 y3 ∧ Below w.heap.size w w' ∧ Grown w w' := by
  have HX : Hid (Lm X x0 x1 x2 x3 ∧ b < 18446744073709551616 ∧ X * b < 115792089237316195423570985008687907853269984665640564039457584007913129639936) := ⟨hX, hb, hXb⟩
  clear hX hb hXb
  go_enter Trym.func18, Trym.ntmps18
  go_wp2
  go_loopg [6, 7] 4 (fun g vc vi wx => ∃ i y0 y1 y2 y3 c : Nat, g = 4 - i ∧ i ≤ 4 ∧ vc = .int .u64 c ∧ vi = .int .i64 i ∧
    ((w.alloc (.cells #[.int .u64 x0, .int .u64 x1, .int .u64 x2, .int .u64 x3] 34)).alloc (.cells #[.int .u64 0, .int .u64 0, .int .u64 0, .int .u64 0] 34)).alloc (.cells #[.int .u64 y0, .int .u64 y1, .int .u64 y2, .int .u64 y3] 34) = wx ∧ Hid (St x0 x1 x2 x3 b i y0 y1 y2 y3 c))
  case atStart => exact ⟨0, 0, 0, 0, 0, 0, rfl, by omega, rfl, rfl, rfl, ⟨by omega, by omega, by omega, by omega, by omega, fun _ => ⟨rfl, rfl, rfl, rfl, rfl⟩, fun h => by omega, fun h => by omega, fun h => by omega, fun h => by omega⟩⟩
  case round =>
    obtain ⟨i, y0, y1, y2, y3, c, rfl, hi, rfl, rfl, rfl, hst⟩ := hrel
    rcases (show i = 0 ∨ i = 1 ∨ i = 2 ∨ i = 3 ∨ i = 4 by omega) with rfl | rfl | rfl | rfl | rfl
    · have K := Hid.out hst
      have kc := K.c0
      go_wp2_with fail
      refine (mul64_ex x0 b _ HX.out.1.b0 HX.out.2.1).mono ?_
      rintro e w' ⟨h, l, rfl, rfl, hl, hh, F⟩
      rcases carry_cases h l c _ hl hh kc F with ⟨s, ew, hsl, hsM, hF⟩ | ⟨s, ew, hsl, hsM, hF⟩
      · have hst' : Hid (St x0 x1 x2 x3 b 1 s y1 y2 y3 h) := st_1 hst.out hsM (by omega) hF
        clear K kc F hF hst hl hsM
        go_wp2
        go_roundg (4 - 1)
        case measure => omega
        case rel => exact ⟨1, s, y1, y2, y3, h, rfl, by omega, rfl, rfl, rfl, hst'⟩
      · have hst' : Hid (St x0 x1 x2 x3 b 1 s y1 y2 y3 (h + 1)) := st_1 hst.out hsM hh hF
        have hh' : (h : Int) + 1 ≤ 18446744073709551615 := by omega
        clear K kc F hF hst hl hsM hh
        go_wp2
        go_roundg (4 - 1)
        case measure => omega
        case rel => exact ⟨1, s, y1, y2, y3, h + 1, rfl, by omega, by go_num, rfl, rfl, hst'⟩
    · have K := Hid.out hst
      have kc := K.c0
      go_wp2_with fail
      refine (mul64_ex x1 b _ HX.out.1.b1 HX.out.2.1).mono ?_
      rintro e w' ⟨h, l, rfl, rfl, hl, hh, F⟩
      rcases carry_cases h l c _ hl hh kc F with ⟨s, ew, hsl, hsM, hF⟩ | ⟨s, ew, hsl, hsM, hF⟩
      · have hst' : Hid (St x0 x1 x2 x3 b 2 y0 s y2 y3 h) := st_2 hst.out hsM (by omega) hF
        clear K kc F hF hst hl hsM
        go_wp2
        go_roundg (4 - 2)
        case measure => omega
        case rel => exact ⟨2, y0, s, y2, y3, h, rfl, by omega, rfl, rfl, rfl, hst'⟩
      · have hst' : Hid (St x0 x1 x2 x3 b 2 y0 s y2 y3 (h + 1)) := st_2 hst.out hsM hh hF
        have hh' : (h : Int) + 1 ≤ 18446744073709551615 := by omega
        clear K kc F hF hst hl hsM hh
        go_wp2
        go_roundg (4 - 2)
        case measure => omega
        case rel => exact ⟨2, y0, s, y2, y3, h + 1, rfl, by omega, by go_num, rfl, rfl, hst'⟩
    · have K := Hid.out hst
      have kc := K.c0
      go_wp2_with fail
      refine (mul64_ex x2 b _ HX.out.1.b2 HX.out.2.1).mono ?_
      rintro e w' ⟨h, l, rfl, rfl, hl, hh, F⟩
      rcases carry_cases h l c _ hl hh kc F with ⟨s, ew, hsl, hsM, hF⟩ | ⟨s, ew, hsl, hsM, hF⟩
      · have hst' : Hid (St x0 x1 x2 x3 b 3 y0 y1 s y3 h) := st_3 hst.out hsM (by omega) hF
        clear K kc F hF hst hl hsM
        go_wp2
        go_roundg (4 - 3)
        case measure => omega
        case rel => exact ⟨3, y0, y1, s, y3, h, rfl, by omega, rfl, rfl, rfl, hst'⟩
      · have hst' : Hid (St x0 x1 x2 x3 b 3 y0 y1 s y3 (h + 1)) := st_3 hst.out hsM hh hF
        have hh' : (h : Int) + 1 ≤ 18446744073709551615 := by omega
        clear K kc F hF hst hl hsM hh
        go_wp2
        go_roundg (4 - 3)
        case measure => omega
        case rel => exact ⟨3, y0, y1, s, y3, h + 1, rfl, by omega, by go_num, rfl, rfl, hst'⟩
    · have K := Hid.out hst
      have kc := K.c0
      go_wp2_with fail
      refine (mul64_ex x3 b _ HX.out.1.b3 HX.out.2.1).mono ?_
      rintro e w' ⟨h, l, rfl, rfl, hl, hh, F⟩
      rcases carry_cases h l c _ hl hh kc F with ⟨s, ew, hsl, hsM, hF⟩ | ⟨s, ew, hsl, hsM, hF⟩
      · have hst' : Hid (St x0 x1 x2 x3 b 4 y0 y1 y2 s h) := st_4 hst.out hsM (by omega) hF
        clear K kc F hF hst hl hsM
        go_wp2
        go_roundg (4 - 4)
        case measure => omega
        case rel => exact ⟨4, y0, y1, y2, s, h, rfl, by omega, rfl, rfl, rfl, hst'⟩
      · have hst' : Hid (St x0 x1 x2 x3 b 4 y0 y1 y2 s (h + 1)) := st_4 hst.out hsM hh hF
        have hh' : (h : Int) + 1 ≤ 18446744073709551615 := by omega
        clear K kc F hF hst hl hsM hh
        go_wp2
        go_roundg (4 - 4)
        case measure => omega
        case rel => exact ⟨4, y0, y1, y2, s, h + 1, rfl, by omega, by go_num, rfl, rfl, hst'⟩
    · have hfin := lm_mul HX.out.1 HX.out.2.2 hst.out
      have HF : Hid (Lm (X * b) y0 y1 y2 y3) := hfin
      clear hfin hst
      go_wp2_with fail
      refine bodyPost_ret (v := .agg #[.int .u64 y0, .int .u64 y1, .int .u64 y2, .int .u64 y3]) (by simp [results, Trym.results18, go_sem]) rfl ⟨y0, y1, y2, y3, rfl, HF.out, ?_, ?_⟩
      · exact (((Below.refl _ _).alloc (Nat.le_refl _) _).alloc (by simp) _).alloc (by simp; omega) _
      · exact (((Grown.refl _).alloc _ _).alloc _ _).alloc _ _

end Go.Proofs.Qxb6600555aMods.Lim
