/-
  Doubles as whole numbers, no Go: the double at rung r stands for V r, in units of 2 to the -1074. Reading, rounding, the product, the order.
-/
import Ieee.Arith
import Derived.KernelRfl
namespace Go.Proofs.Qxb6600555aMods.Dbl
open Ieee
set_option linter.unusedVariables false

/-- 2^n, under a name that is not reckoned out. -/
def p2 (n : Nat) : Nat := 2 ^ n
theorem p2_def (n : Nat) : 2 ^ n = p2 n := rfl
theorem p2_pos (n : Nat) : 0 < p2 n := Nat.two_pow_pos n
theorem p2_add (a b : Nat) : p2 (a + b) = p2 a * p2 b := Nat.pow_add 2 a b
theorem p2_lt {a b : Nat} : p2 a < p2 b ↔ a < b := Nat.pow_lt_pow_iff_right (by decide)
theorem p2_le {a b : Nat} : p2 a ≤ p2 b ↔ a ≤ b := Nat.pow_le_pow_iff_right (by decide)
theorem p2_52 : p2 52 = 4503599627370496 := by decide
theorem p2_53 : p2 53 = 9007199254740992 := by decide

/-- What rung r stands for, in units of 2^-1074. -/
def V (r : Nat) : Nat := if r < 2 ^ 52 then r else (2 ^ 52 + r % 2 ^ 52) * 2 ^ (r / 2 ^ 52 - 1)

/-- A normal number's rung. -/
def Norm (r : Nat) : Prop := 2 ^ 52 ≤ r ∧ r < 2047 * 2 ^ 52

theorem leastPlace_double : double.leastPlace = -1074 := by decide
theorem binade_double : double.binade = 2 ^ 52 := rfl
theorem infRung_double : double.infRung = 2047 * 2 ^ 52 := by decide
theorem signWeight_double : double.signWeight = 2 ^ 63 := rfl

/-- A rung that stands for a number: read. -/
theorem read_num (r : Nat) (h : r < 2047 * 2 ^ 52) : ∃ m q : Nat, double.read r = .number false m ((q : Int) - 1074) ∧ m * 2 ^ q = V r ∧ (2 ^ 52 ≤ r → 2 ^ 52 ≤ m ∧ m < 2 ^ 53 ∧ q = r / 2 ^ 52 - 1) := by
  unfold Format.read
  rw [signWeight_double, binade_double, infRung_double, leastPlace_double]
  have h1 : r % 2 ^ 63 = r := Nat.mod_eq_of_lt (by omega)
  have h2 : r / 2 ^ 63 = 0 := Nat.div_eq_of_lt (by omega)
  simp only [h1, h2]
  by_cases hb : r < 2 ^ 52
  · rw [if_pos hb]
    refine ⟨r, 0, rfl, ?_, fun h => by omega⟩
    unfold V; rw [if_pos hb]; simp
  · rw [if_neg hb, if_pos h]
    refine ⟨2 ^ 52 + r % 2 ^ 52, r / 2 ^ 52 - 1, ?_, ?_, fun _ => ⟨by omega, by omega, rfl⟩⟩
    · congr 1
    · unfold V; rw [if_neg hb]

theorem V_pos {r : Nat} (h : Norm r) : 0 < V r := by
  unfold V
  rw [if_neg (by have := h.1; omega)]
  exact Nat.mul_pos (by omega) (Nat.two_pow_pos _)

/-- The rung of a significand with its full number of digits, at its place. -/
theorem V_kept (q kept : Nat) (h1 : 2 ^ 52 ≤ kept) (h2 : kept ≤ 2 ^ 53) : V (q * 2 ^ 52 + kept) = kept * 2 ^ q := by
  unfold V
  rw [if_neg (by omega)]
  by_cases e : kept = 2 ^ 53
  · have d1 : (q * 2 ^ 52 + kept) / 2 ^ 52 = q + 2 := by omega
    have d2 : (q * 2 ^ 52 + kept) % 2 ^ 52 = 0 := by omega
    rw [d1, d2, e, show q + 2 - 1 = q + 1 by omega, Nat.pow_succ]
    omega
  · have d1 : (q * 2 ^ 52 + kept) / 2 ^ 52 = q + 1 := by omega
    have d2 : (q * 2 ^ 52 + kept) % 2 ^ 52 = kept - 2 ^ 52 := by omega
    rw [d1, d2, show q + 1 - 1 = q by omega, show 2 ^ 52 + (kept - 2 ^ 52) = kept by omega]

theorem cut_zero (n : Nat) : Toward.even.cut false n 0 = n := by
  unfold Toward.cut
  simp [Nat.mod_one]

/-- 'n / 2^drop' to the nearest whole number. -/
theorem cut_even (n drop : Nat) (h : drop ≤ n.log2) :
    2 * (Toward.even.cut false n drop * 2 ^ drop) ≤ 2 * n + 2 ^ drop ∧ 2 * n ≤ 2 * (Toward.even.cut false n drop * 2 ^ drop) + 2 ^ drop ∧ n / 2 ^ drop ≤ Toward.even.cut false n drop ∧ Toward.even.cut false n drop ≤ n / 2 ^ drop + 1 ∧ (n % 2 ^ drop = 0 → Toward.even.cut false n drop = n / 2 ^ drop) := by
  unfold Toward.cut
  simp only [Nat.min_eq_left (show drop ≤ n.log2 + 2 by omega), Nat.one_shiftLeft]
  have hg : 0 < 2 ^ drop := Nat.two_pow_pos _
  have hd := Nat.div_add_mod n (2 ^ drop)
  have hm := Nat.mod_lt n hg
  generalize 2 ^ drop = g at *
  generalize hl : n / g = low at *
  generalize n % g = rest at *
  rw [Nat.mul_comm] at hd
  by_cases c : (g < 2 * rest || (g == 2 * rest && low % 2 == 1)) = true
  · simp only [c, Bool.toNat_true]
    simp at c
    have e : (low + 1) * g = low * g + g := by rw [Nat.add_mul, Nat.one_mul]
    rw [e]
    refine ⟨by omega, by omega, by omega, by omega, fun h0 => ?_⟩
    omega
  · simp only [Bool.not_eq_true] at c
    simp only [c, Bool.toNat_false, Nat.add_zero]
    simp at c
    exact ⟨by omega, by omega, by omega, by omega, fun _ => trivial⟩

theorem min_rung (t kept : Nat) (h1 : t ≤ 2000) (h2 : kept ≤ 2 ^ 53) : min (t * 2 ^ 52 + kept) (2047 * 2 ^ 52) = t * 2 ^ 52 + kept := by omega
theorem norm_rung (t kept : Nat) (h1 : t ≤ 2000) (h0 : 2 ^ 52 ≤ kept) (h2 : kept ≤ 2 ^ 53) : Norm (t * 2 ^ 52 + kept) := ⟨by omega, by omega⟩
theorem err_hi (x g m : Nat) (c1 : 2 * x ≤ 2 * m + g) (h : 2 ^ 52 * g ≤ m) : x * 2 ^ 53 ≤ m * (2 ^ 53 + 1) := by omega
theorem err_lo (x g m : Nat) (c1 : 2 * m ≤ 2 * x + g) (h : 2 ^ 52 * g ≤ m) : m * (2 ^ 53 - 1) ≤ x * 2 ^ 53 := by omega
theorem up1 : (2 ^ 53 : Nat) ≤ 2 ^ 53 + 1 := by omega
theorem down1 : (2 ^ 53 - 1 : Nat) ≤ 2 ^ 53 := by omega
theorem scale_hi (x m q : Nat) (h : x * 2 ^ 53 ≤ m * (2 ^ 53 + 1)) : x * q * 2 ^ 53 ≤ m * q * (2 ^ 53 + 1) := by
  generalize 2 ^ 53 + 1 = c at *
  generalize 2 ^ 53 = b at *
  rw [Nat.mul_right_comm, Nat.mul_right_comm m q c]
  exact Nat.mul_le_mul_right _ h
theorem scale_lo (x m q : Nat) (h : m * (2 ^ 53 - 1) ≤ x * 2 ^ 53) : m * q * (2 ^ 53 - 1) ≤ x * q * 2 ^ 53 := by
  generalize 2 ^ 53 - 1 = c at *
  generalize 2 ^ 53 = b at *
  rw [Nat.mul_right_comm, Nat.mul_right_comm x q b]
  exact Nat.mul_le_mul_right _ h

/-- What the format's nearest word is, in the normal range: a rung whose number is off by at most one part in 2^53; and exact where no digit is dropped. -/
theorem nearest_num (m q : Nat) (hm : 0 < m) (h1 : 52 ≤ q + m.log2) (h2 : q + m.log2 ≤ 2000) :
    ∃ r, double.nearest false m ((q : Int) - 1074) = r ∧ Norm r ∧ V r * p2 53 ≤ m * p2 q * (p2 53 + 1) ∧ m * p2 q * (p2 53 - 1) ≤ V r * p2 53 ∧ (m % 2 ^ (m.log2 - 52) = 0 → V r = m * p2 q) := by
  unfold p2
  obtain ⟨k, hk⟩ : ∃ k, k = m.log2 := ⟨_, rfl⟩
  have hlo : 2 ^ k ≤ m := by rw [hk]; exact Nat.log2_self_le (by omega)
  have hhi : m < 2 ^ (k + 1) := by rw [hk]; exact Nat.lt_log2_self
  unfold Format.nearest
  rw [if_neg (by omega), binade_double, infRung_double, leastPlace_double]
  simp only [← hk]
  rw [← hk] at h1 h2
  have hf : (double.fractionBits : Int) = 52 := rfl
  rw [hf]
  have hlast : max ((q : Int) - 1074 + (k : Int) - 52) (-1074) = (q : Int) - 1074 + (k : Int) - 52 := by omega
  rw [hlast]
  have hq : ((q : Int) - 1074 + (k : Int) - 52 - -1074).toNat = q + k - 52 := by omega
  rw [hq]
  by_cases hk52 : k ≤ 52
  · have s1 : ((q : Int) - 1074 - ((q : Int) - 1074 + (k : Int) - 52)).toNat = 52 - k := by omega
    have s2 : ((q : Int) - 1074 + (k : Int) - 52 - ((q : Int) - 1074)).toNat = 0 := by omega
    rw [s1, s2, cut_zero, Nat.shiftLeft_eq]
    have e52 : 2 ^ k * 2 ^ (52 - k) = 2 ^ 52 := by rw [← Nat.pow_add, show k + (52 - k) = 52 by omega]
    have e53 : 2 ^ (k + 1) * 2 ^ (52 - k) = 2 ^ 53 := by rw [← Nat.pow_add, show k + 1 + (52 - k) = 53 by omega]
    have k1 : 2 ^ 52 ≤ m * 2 ^ (52 - k) := by rw [← e52]; exact Nat.mul_le_mul_right _ hlo
    have k2 : m * 2 ^ (52 - k) < 2 ^ 53 := by rw [← e53]; exact Nat.mul_lt_mul_of_pos_right hhi (Nat.two_pow_pos _)
    have hV := V_kept (q + k - 52) (m * 2 ^ (52 - k)) k1 (Nat.le_of_lt k2)
    have hE : m * 2 ^ (52 - k) * 2 ^ (q + k - 52) = m * 2 ^ q := by
      rw [Nat.mul_assoc, ← Nat.pow_add, show 52 - k + (q + k - 52) = q by omega]
    rw [hE] at hV
    rw [min_rung _ _ (by omega) (Nat.le_of_lt k2)]
    refine ⟨(q + k - 52) * 2 ^ 52 + m * 2 ^ (52 - k), rfl, norm_rung _ _ (by omega) k1 (Nat.le_of_lt k2), ?_, ?_, fun _ => hV⟩
    · rw [hV]; exact Nat.mul_le_mul_left _ up1
    · rw [hV]; exact Nat.mul_le_mul_left _ down1
  · obtain ⟨d, rfl⟩ : ∃ d, k = 52 + d := ⟨k - 52, by omega⟩
    have s1 : ((q : Int) - 1074 - ((q : Int) - 1074 + ((52 + d : Nat) : Int) - 52)).toNat = 0 := by omega
    have s2 : ((q : Int) - 1074 + ((52 + d : Nat) : Int) - 52 - ((q : Int) - 1074)).toNat = d := by omega
    rw [s1, s2, Nat.shiftLeft_zero]
    obtain ⟨c1, c2, c3, c4, c5⟩ := cut_even m d (by omega)
    have hg : 0 < 2 ^ d := Nat.two_pow_pos _
    have b1 : 2 ^ 52 ≤ m / 2 ^ d := by
      rw [Nat.le_div_iff_mul_le hg, ← Nat.pow_add]; exact hlo
    have b2 : m / 2 ^ d < 2 ^ 53 := by
      rw [Nat.div_lt_iff_lt_mul hg, ← Nat.pow_add, show 53 + d = 52 + d + 1 by omega]; exact hhi
    generalize hkept : Toward.even.cut false m d = kept at *
    have hV := V_kept (q + (52 + d) - 52) kept (Nat.le_trans b1 c3) (Nat.le_trans c4 b2)
    have hqd : q + (52 + d) - 52 = q + d := by omega
    rw [hqd] at hV ⊢
    have k1 : 2 ^ 52 ≤ kept := Nat.le_trans b1 c3
    have k2 : kept ≤ 2 ^ 53 := Nat.le_trans c4 b2
    rw [min_rung _ _ (by omega) k2]
    have hE : kept * 2 ^ (q + d) = kept * 2 ^ d * 2 ^ q := by rw [Nat.mul_assoc, ← Nat.pow_add, Nat.add_comm]
    rw [hE] at hV
    have p52 : 2 ^ 52 * 2 ^ d ≤ m := by rw [← Nat.pow_add]; exact hlo
    refine ⟨(q + d) * 2 ^ 52 + kept, rfl, norm_rung _ _ (by omega) k1 k2, ?_, ?_, ?_⟩
    · rw [hV]; exact scale_hi _ _ _ (err_hi _ _ _ c1 p52)
    · rw [hV]; exact scale_lo _ _ _ (err_lo _ _ _ c2 p52)
    · intro h0
      rw [show 52 + d - 52 = d by omega] at h0
      rw [hV, c5 h0]
      congr 1
      have := Nat.div_add_mod m (2 ^ d)
      rw [h0, Nat.add_zero, Nat.mul_comm] at this
      exact this

theorem two_le {a b : Nat} (h : a ≤ b) : 2 ^ a ≤ 2 ^ b := Nat.pow_le_pow_right (by decide) h

theorem log2_bounds (m k : Nat) (h1 : 2 ^ k ≤ m) (h2 : m < 2 ^ (k + 2)) : k ≤ m.log2 ∧ m.log2 ≤ k + 1 := by
  have hm : m ≠ 0 := by have := Nat.two_pow_pos k; omega
  have a := Nat.log2_self_le hm
  have b : m < 2 ^ (m.log2 + 1) := Nat.lt_log2_self
  constructor
  · have : 2 ^ k < 2 ^ (m.log2 + 1) := Nat.lt_of_le_of_lt h1 b
    have := (Nat.pow_lt_pow_iff_right (a := 2) (by omega)).1 this
    omega
  · have : 2 ^ m.log2 < 2 ^ (k + 2) := Nat.lt_of_le_of_lt a h2
    have := (Nat.pow_lt_pow_iff_right (a := 2) (by omega)).1 this
    omega

theorem exp_lo {p A e : Nat} (hp : p < p2 106) (h : p2 A ≤ p * p2 e) : A < 106 + e := by
  have h3 : p * p2 e < p2 106 * p2 e := Nat.mul_lt_mul_of_pos_right hp (p2_pos _)
  rw [← p2_add] at h3
  exact p2_lt.1 (Nat.lt_of_le_of_lt h h3)
theorem exp_hi {p A e : Nat} (hp : p2 104 ≤ p) (h : p * p2 e < p2 A) : 104 + e < A := by
  have h3 : p2 104 * p2 e ≤ p * p2 e := Nat.mul_le_mul_right _ hp
  rw [← p2_add] at h3
  exact p2_lt.1 (Nat.lt_of_le_of_lt h3 h)

theorem prod_bounds (m n : Nat) (a1 : 2 ^ 52 ≤ m) (a2 : m < 2 ^ 53) (b1 : 2 ^ 52 ≤ n) (b2 : n < 2 ^ 53) : 2 ^ 104 ≤ m * n ∧ m * n < 2 ^ 106 := by
  constructor
  · have := Nat.mul_le_mul a1 b1
    rwa [← Nat.pow_add] at this
  · have := Nat.mul_lt_mul'' a2 b2
    rwa [← Nat.pow_add] at this

/-- The product of two normal numbers, in the normal range. -/
theorem mul_num (x y : Nat) (hx : Norm x) (hy : Norm y) (h1 : p2 1180 ≤ V x * V y) (h2 : V x * V y < p2 3050) :
    ∃ r, double.mul x y = some r ∧ Norm r ∧ V r * p2 1074 * p2 53 ≤ V x * V y * (p2 53 + 1) ∧ V x * V y * (p2 53 - 1) ≤ V r * p2 1074 * p2 53 ∧ (y % 2 ^ 52 = 0 → V r * p2 1074 = V x * V y) := by
  obtain ⟨m, i, rx, vx, nx⟩ := read_num x hx.2
  obtain ⟨n, j, ry, vy, ny⟩ := read_num y hy.2
  obtain ⟨a1, a2, a3⟩ := nx hx.1
  obtain ⟨b1, b2, b3⟩ := ny hy.1
  obtain ⟨pb1, pb2⟩ := prod_bounds m n a1 a2 b1 b2
  have hv : V x * V y = m * n * p2 (i + j) := by
    rw [← vx, ← vy, p2_add, p2_def, p2_def]
    rw [Nat.mul_mul_mul_comm]
  have hij : 1074 ≤ i + j := by
    rw [hv] at h1
    have := exp_lo (A := 1180) (e := i + j) pb2 h1
    clear h1 h2
    omega
  have hup : i + j < 2946 := by
    rw [hv] at h2
    have := exp_hi (A := 3050) (e := i + j) pb1 h2
    clear h1 h2
    omega
  obtain ⟨q, hq⟩ : ∃ q, i + j = q + 1074 := ⟨i + j - 1074, by omega⟩
  obtain ⟨l1, l2⟩ := log2_bounds (m * n) 104 pb1 pb2
  have hpos : 0 < m * n := by have := Nat.two_pow_pos 104; exact Nat.lt_of_lt_of_le this pb1
  obtain ⟨r, hr, hn, e1, e2, e3⟩ := nearest_num (m * n) q hpos (by omega) (by omega)
  have hplace : ((i : Int) - 1074 + ((j : Int) - 1074)) = (q : Int) - 1074 := by omega
  have hmul : double.mul x y = some r := by
    unfold Format.mul
    rw [rx, ry]
    simp only [Datum.product, Option.map_some, Format.write, hplace]
    rw [← hr]
    rfl
  have hvq : V x * V y = m * n * p2 q * p2 1074 := by rw [hv, hq, p2_add, Nat.mul_assoc (m * n)]
  refine ⟨r, hmul, hn, ?_, ?_, ?_⟩
  · rw [hvq]
    generalize p2 1074 = S
    generalize m * n * p2 q = E at *
    exact scale_hi _ _ _ e1
  · rw [hvq]
    generalize p2 1074 = S
    generalize m * n * p2 q = E at *
    exact scale_lo _ _ _ e2
  · intro hy0
    have hn52 : n = 2 ^ 52 := by
      have := vy
      unfold V at this
      rw [if_neg (by have := hy.1; omega), hy0, Nat.add_zero, ← b3] at this
      exact Nat.eq_of_mul_eq_mul_right (Nat.two_pow_pos j) this
    have hl : (m * n).log2 = 104 := by
      have hlt : m * n < 2 ^ 105 := by
        rw [hn52]
        have := Nat.mul_lt_mul_of_pos_right a2 (Nat.two_pow_pos 52)
        rwa [← Nat.pow_add] at this
      have b : 2 ^ (m * n).log2 < 2 ^ 105 := Nat.lt_of_le_of_lt (Nat.log2_self_le (by omega)) hlt
      have := (Nat.pow_lt_pow_iff_right (a := 2) (by omega)).1 b
      omega
    have hd : m * n % 2 ^ ((m * n).log2 - 52) = 0 := by
      rw [hl, hn52]
      exact Nat.mul_mod_left _ _
    rw [e3 hd, hvq]

/-! ### The order -/
theorem signed_false (m k : Nat) : signed false m k = ((m * 2 ^ k : Nat) : Int) := by
  unfold signed
  rw [Nat.shiftLeft_eq]
  rfl

theorem scale_cmp (m n i j : Nat) : ∃ c, 0 < c ∧ m * 2 ^ i = m * 2 ^ (i - min i j) * c ∧ n * 2 ^ j = n * 2 ^ (j - min i j) * c := by
  refine ⟨2 ^ min i j, Nat.two_pow_pos _, ?_, ?_⟩
  · rw [Nat.mul_assoc, ← Nat.pow_add, show i - min i j + min i j = i by omega]
  · rw [Nat.mul_assoc, ← Nat.pow_add, show j - min i j + min i j = j by omega]

theorem order_read (x y m n i j : Nat) (rx : double.read x = .number false m ((i : Int) - 1074)) (ry : double.read y = .number false n ((j : Int) - 1074)) :
    double.order x y = some (compare ((m * 2 ^ (i - min i j) : Nat) : Int) ((n * 2 ^ (j - min i j) : Nat) : Int)) := by
  unfold Format.order
  rw [rx, ry]
  simp only [Datum.order, signed_false]
  have h1 : ((i : Int) - 1074 - min ((i : Int) - 1074) ((j : Int) - 1074)).toNat = i - min i j := by omega
  have h2 : ((j : Int) - 1074 - min ((i : Int) - 1074) ((j : Int) - 1074)).toNat = j - min i j := by omega
  rw [h1, h2]

theorem order_lt (x y : Nat) (hx : x < 2047 * 2 ^ 52) (hy : y < 2047 * 2 ^ 52) (h : V x < V y) : double.order x y = some .lt := by
  obtain ⟨m, i, rx, vx, _⟩ := read_num x hx
  obtain ⟨n, j, ry, vy, _⟩ := read_num y hy
  rw [order_read x y m n i j rx ry]
  obtain ⟨c, hc, e1, e2⟩ := scale_cmp m n i j
  rw [← vx, ← vy, e1, e2] at h
  have := Nat.lt_of_mul_lt_mul_right h
  congr 1
  rw [Int.compare_eq_lt]
  omega
theorem order_gt (x y : Nat) (hx : x < 2047 * 2 ^ 52) (hy : y < 2047 * 2 ^ 52) (h : V y < V x) : double.order x y = some .gt := by
  obtain ⟨m, i, rx, vx, _⟩ := read_num x hx
  obtain ⟨n, j, ry, vy, _⟩ := read_num y hy
  rw [order_read x y m n i j rx ry]
  obtain ⟨c, hc, e1, e2⟩ := scale_cmp m n i j
  rw [← vx, ← vy, e1, e2] at h
  have := Nat.lt_of_mul_lt_mul_right h
  congr 1
  rw [Int.compare_eq_gt]
  omega
theorem order_eq (x y : Nat) (hx : x < 2047 * 2 ^ 52) (hy : y < 2047 * 2 ^ 52) (h : V x = V y) : double.order x y = some .eq := by
  obtain ⟨m, i, rx, vx, _⟩ := read_num x hx
  obtain ⟨n, j, ry, vy, _⟩ := read_num y hy
  rw [order_read x y m n i j rx ry]
  obtain ⟨c, hc, e1, e2⟩ := scale_cmp m n i j
  rw [← vx, ← vy, e1, e2] at h
  have := Nat.eq_of_mul_eq_mul_right hc h
  congr 1
  rw [Int.compare_eq_eq]
  omega

end Go.Proofs.Qxb6600555aMods.Dbl
