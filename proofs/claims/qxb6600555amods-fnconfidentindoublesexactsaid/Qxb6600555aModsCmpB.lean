/-
  'cycB1CmpScaled' (15) at every z in range; the law's walk (6).
-/
import Derived.Test.Qxb6600555aModsCmpA
namespace Go.Proofs.Qxb6600555aMods.Cmp
open Go.RowKit
open Go.Proofs.Qxb6600555aMods.Dbl Go.Proofs.Qxb6600555aMods.Lim
set_option linter.unusedVariables false

theorem cmp15 (m n a b z vz : Nat) (w : World) (hz : Zin z vz) (hn0 : 1 ≤ n) (hn : n < 1073741824) (hm : m ≤ n) (h2m : n < 2 * m) (ha0 : 0 < a) (ha : a < 2147483648) (hb0 : 0 < b) (hb : b < 2147483648) :
    Calls Trym.prog 15 #[.int .i64 m, .int .i64 n, .float .f64 z, .int .u64 a, .int .u64 b] w fun e w' => ∃ x : Int, e = .returned (.int .i64 x) ∧ Hid (x = sgn (a * LX m n) (b * RY m n vz)) ∧ Below w.heap.size w w' ∧ Grown w w' := by
  rcases hz with ⟨h, rfl⟩ | ⟨hz, h1, h2, rfl⟩
  · refine (cmp_one m n (2 * m - n) a b z w hn0 hn hm (by omega) (by omega) ha (.inl (by rw [ord0 h]; rfl))).mono ?_
    rintro e w' ⟨rfl, hB, hG⟩
    exact ⟨1, rfl, (scale_one ha0 hn0 h2m (.inl rfl)).symm, hB, hG⟩
  · by_cases hmn : m = n
    · refine (cmp_one m n (2 * m - n) a b z w hn0 hn hm (by omega) (by omega) ha (.inr ⟨(in_orders hz h1 h2).1, hmn⟩)).mono ?_
      rintro e w' ⟨rfl, hB, hG⟩
      exact ⟨1, rfl, (scale_one ha0 hn0 h2m (.inr hmn)).symm, hB, hG⟩
    · refine (cmp_rest m n (2 * m - n) (n - m) a b (4 * b) z w hn0 hn (by omega) (by omega) (by omega) (by omega) (by omega) (by omega) (by omega) (by omega) ha0 ha hb0 hb (by omega) (by omega) (in_orders hz h1 h2).1 hz h1 h2).mono ?_
      rintro e w' ⟨rfl, hB, hG⟩
      exact ⟨_, rfl, rfl, hB, hG⟩

theorem sgn_ge {A B : Nat} (h : ¬ A < B) : 0 ≤ sgn A B := by
  rcases Nat.lt_trichotomy A B with k | k | k
  · exact absurd k h
  · rw [sgn_eq k]; decide
  · rw [sgn_gt k]; decide
theorem sgn_le {A B : Nat} (h : ¬ B < A) : sgn A B ≤ 0 := by
  rcases Nat.lt_trichotomy A B with k | k | k
  · rw [sgn_lt k]; decide
  · rw [sgn_eq k]; decide
  · exact absurd k h

set_option maxHeartbeats 1000000 in
set_option maxRecDepth 100000 in
theorem law_out (m n z : Nat) (w : World) (h : Zout z) (hn0 : 1 ≤ n) (hn : n < 1073741824) (hm : m ≤ n) (h2m : n < 2 * m) :
    Calls Trym.prog 6 #[.int .i64 m, .int .i64 n, .float .f64 z] w fun e w' => e = .returned (.bool true) ∧ Grown w w' := by
  have HZ : Hid (Zout z) := h
  clear h
  go_enter Trym.func6, Trym.ntmps6
  go_wp2_with fail
  refine (twin_out m n z _ HZ.out (by omega) (by omega) (by omega) (by omega)).mono ?_
  rintro e w' ⟨rfl, hB, hG⟩
  have HG : Hid (Grown w w') := hG
  clear hB hG
  go_wp2_with fail
  refine (range_out z _ HZ.out).mono ?_
  rintro e w2 ⟨rfl, rfl⟩
  go_wp2
  go_ret
  exact ⟨rfl, HG.out⟩

set_option maxHeartbeats 2000000 in
set_option maxRecDepth 100000 in
theorem law_in (m n z vz : Nat) (w : World) (h : Zin z vz) (hn0 : 1 ≤ n) (hn : n < 1073741824) (hm : m ≤ n) (h2m : n < 2 * m) :
    Calls Trym.prog 6 #[.int .i64 m, .int .i64 n, .float .f64 z] w fun e w' => e = .returned (.bool true) ∧ Grown w w' := by
  have HZ : Hid (Zin z vz) := h
  clear h
  go_enter Trym.func6, Trym.ntmps6
  go_wp2_with fail
  refine (twin_in m n z vz _ HZ.out (by omega) (by omega) (by omega) (by omega)).mono ?_
  rintro e w' ⟨c, s, rfl, rfl, hA⟩
  have HA : Hid (Ans (LX m n) (RY m n vz) c s) := hA
  clear hA
  go_wp2_with fail
  refine (range_isin z vz _ HZ.out).mono ?_
  rintro e w' ⟨rfl, rfl⟩
  cases s with
  | true =>
    cases c with
    | true =>
      have hlt : RY m n vz < LX m n := by
        rcases HA.out.2.1 rfl with k | k
        · exact k.2
        · cases k.1
      have HL : Hid (RY m n vz < LX m n) := hlt
      clear hlt
      go_wp2_with fail
      refine (cmp15 m n 1 1 z vz _ HZ.out (by omega) (by omega) (by omega) (by omega) (by decide) (by decide) (by decide) (by decide)).mono ?_
      rintro e w1 ⟨x1, rfl, hx1, hB1, hG1⟩
      have e1 : x1 = 1 := hx1.out.trans (sgn_gt (by rw [Nat.one_mul, Nat.one_mul]; exact HL.out))
      subst e1
      have G1 : Hid (Grown w w1) := hG1
      clear hx1 hB1 hG1
      go_wp2_with fail
      refine (cmp15 m n 1073741824 1073741825 z vz _ HZ.out (by omega) (by omega) (by omega) (by omega) (by decide) (by decide) (by decide) (by decide)).mono ?_
      rintro e w2 ⟨x2, rfl, hx2, hB2, hG2⟩
      have G2 : Hid (Grown w w2) := grown_trans G1.out hG2
      clear hx2 hB2 hG2
      by_cases q2 : 0 < x2
      · go_wp2_with fail
        refine (cmp15 m n 1073741825 1073741824 z vz _ HZ.out (by omega) (by omega) (by omega) (by omega) (by decide) (by decide) (by decide) (by decide)).mono ?_
        rintro e w3 ⟨x3, rfl, hx3, hB3, hG3⟩
        have e3 : x3 = 1 := hx3.out.trans (sgn_gt (by have := HL.out; omega))
        subst e3
        have G3 : Hid (Grown w w3) := grown_trans G2.out hG3
        clear hx3 hB3 hG3
        go_wp2
        go_ret
        exact ⟨rfl, G3.out⟩
      · go_wp2_with fail
        refine (cmp15 m n 1073741825 1073741824 z vz _ HZ.out (by omega) (by omega) (by omega) (by omega) (by decide) (by decide) (by decide) (by decide)).mono ?_
        rintro e w3 ⟨x3, rfl, hx3, hB3, hG3⟩
        have e3 : x3 = 1 := hx3.out.trans (sgn_gt (by have := HL.out; omega))
        subst e3
        have G3 : Hid (Grown w w3) := grown_trans G2.out hG3
        clear hx3 hB3 hG3
        go_wp2
        go_ret
        exact ⟨rfl, G3.out⟩
    | false =>
      have hlt : LX m n < RY m n vz := by
        rcases HA.out.2.1 rfl with k | k
        · cases k.1
        · exact k.2
      have HL : Hid (LX m n < RY m n vz) := hlt
      clear hlt
      go_wp2_with fail
      refine (cmp15 m n 1 1 z vz _ HZ.out (by omega) (by omega) (by omega) (by omega) (by decide) (by decide) (by decide) (by decide)).mono ?_
      rintro e w1 ⟨x1, rfl, hx1, hB1, hG1⟩
      have e1 : x1 = -1 := hx1.out.trans (sgn_lt (by rw [Nat.one_mul, Nat.one_mul]; exact HL.out))
      subst e1
      have G1 : Hid (Grown w w1) := hG1
      clear hx1 hB1 hG1
      go_wp2_with fail
      refine (cmp15 m n 1073741824 1073741825 z vz _ HZ.out (by omega) (by omega) (by omega) (by omega) (by decide) (by decide) (by decide) (by decide)).mono ?_
      rintro e w2 ⟨x2, rfl, hx2, hB2, hG2⟩
      have e2 : x2 = -1 := hx2.out.trans (sgn_lt (by have := HL.out; omega))
      subst e2
      have G2 : Hid (Grown w w2) := grown_trans G1.out hG2
      clear hx2 hB2 hG2
      go_wp2_with fail
      refine (cmp15 m n 1073741825 1073741824 z vz _ HZ.out (by omega) (by omega) (by omega) (by omega) (by decide) (by decide) (by decide) (by decide)).mono ?_
      rintro e w3 ⟨x3, rfl, hx3, hB3, hG3⟩
      have G3 : Hid (Grown w w3) := grown_trans G2.out hG3
      clear hx3 hB3 hG3
      by_cases q3 : x3 < 0
      · go_wp2
        go_ret
        exact ⟨rfl, G3.out⟩
      · go_wp2
        go_ret
        exact ⟨rfl, G3.out⟩
  | false =>
    cases c with
    | true => exact absurd (HA.out.1 rfl) (by decide)
    | false =>
      have HL : Hid (¬ 1073741825 * RY m n vz < 1073741824 * LX m n) := fun k => absurd (HA.out.2.2.1 k).1 (by decide)
      have HR : Hid (¬ 1073741825 * LX m n < 1073741824 * RY m n vz) := fun k => absurd (HA.out.2.2.2 k).1 (by decide)
      go_wp2_with fail
      refine (cmp15 m n 1 1 z vz _ HZ.out (by omega) (by omega) (by omega) (by omega) (by decide) (by decide) (by decide) (by decide)).mono ?_
      rintro e w1 ⟨x1, rfl, hx1, hB1, hG1⟩
      have G1 : Hid (Grown w w1) := hG1
      clear hx1 hB1 hG1
      go_wp2_with fail
      refine (cmp15 m n 1073741824 1073741825 z vz _ HZ.out (by omega) (by omega) (by omega) (by omega) (by decide) (by decide) (by decide) (by decide)).mono ?_
      rintro e w2 ⟨x2, rfl, hx2, hB2, hG2⟩
      have e2 : x2 ≤ 0 := by rw [hx2.out]; exact sgn_le HL.out
      have G2 : Hid (Grown w w2) := grown_trans G1.out hG2
      clear hx2 hB2 hG2
      go_wp2_with fail
      refine (cmp15 m n 1073741825 1073741824 z vz _ HZ.out (by omega) (by omega) (by omega) (by omega) (by decide) (by decide) (by decide) (by decide)).mono ?_
      rintro e w3 ⟨x3, rfl, hx3, hB3, hG3⟩
      have e3 : 0 ≤ x3 := by rw [hx3.out]; exact sgn_ge HR.out
      have G3 : Hid (Grown w w3) := grown_trans G2.out hG3
      clear hx3 hB3 hG3
      go_wp2
      go_ret
      exact ⟨rfl, G3.out⟩

set_option maxHeartbeats 1000000 in
set_option maxRecDepth 100000 in
theorem law_any (m n : Int) (z : Nat) (w : World) (hz : z < 2 ^ 64) :
    Calls Trym.prog 6 #[.int .i64 m, .int .i64 n, .float .f64 z] w fun e w' => e = .returned (.bool true) ∧ Grown w w' := by
  by_cases h1 : n < 1
  · go_enter Trym.func6, Trym.ntmps6
    go_wp2
    go_ret
    exact ⟨rfl, Grown.refl _⟩
  by_cases h2 : n ≥ 1073741824
  · go_enter Trym.func6, Trym.ntmps6
    go_wp2
    go_ret
    exact ⟨rfl, Grown.refl _⟩
  by_cases h3 : m < 0
  · go_enter Trym.func6, Trym.ntmps6
    go_wp2
    go_ret
    exact ⟨rfl, Grown.refl _⟩
  by_cases h4 : n < m
  · go_enter Trym.func6, Trym.ntmps6
    go_wp2
    go_ret
    exact ⟨rfl, Grown.refl _⟩
  by_cases h5 : 2 * m ≤ n
  · go_enter Trym.func6, Trym.ntmps6
    go_wp2
    go_ret
    exact ⟨rfl, Grown.refl _⟩
  obtain ⟨N, rfl⟩ : ∃ N : Nat, n = N := ⟨n.toNat, by omega⟩
  obtain ⟨M, rfl⟩ : ∃ M : Nat, m = M := ⟨m.toNat, by omega⟩
  rcases z_split z hz with h | ⟨vz, h⟩
  · exact law_out M N z w h (by omega) (by omega) (by omega) (by omega)
  · exact law_in M N z vz w h (by omega) (by omega) (by omega) (by omega)

end Go.Proofs.Qxb6600555aMods.Cmp
