/-
  Plain numbers, no Go: the product of two 64-bit words by halves, as the model writes it.
-/
import Derived.WalkKit
import Derived.Laws.Bits64
import Derived.Laws.Bits64b
import Derived.Laws.BitsAllLaws
namespace Go.Proofs.Qxb6600555aMods.Lim
open Go.RowKit
set_option linter.unusedVariables false

/-- The middle sum, the low word, the high word, of two words a and b. -/
def midE (a b : Int) : Int :=
  IntKind.u64.wrap (IntKind.u64.wrap (IntKind.u64.wrap (bits BinOp.and IntKind.u64 a 4294967295 * bits BinOp.and IntKind.u64 b 4294967295) / 4294967296 + bits BinOp.and IntKind.u64 (IntKind.u64.wrap (bits BinOp.and IntKind.u64 a 4294967295 * (b / 4294967296))) 4294967295) + bits BinOp.and IntKind.u64 (IntKind.u64.wrap (a / 4294967296 * bits BinOp.and IntKind.u64 b 4294967295)) 4294967295)
def loE (a b : Int) : Int :=
  bits BinOp.or IntKind.u64 (bits BinOp.and IntKind.u64 (IntKind.u64.wrap (bits BinOp.and IntKind.u64 a 4294967295 * bits BinOp.and IntKind.u64 b 4294967295)) 4294967295) (IntKind.u64.wrap (midE a b * 4294967296))
def hiE (a b : Int) : Int :=
  IntKind.u64.wrap (IntKind.u64.wrap (IntKind.u64.wrap (IntKind.u64.wrap (a / 4294967296 * (b / 4294967296)) + IntKind.u64.wrap (bits BinOp.and IntKind.u64 a 4294967295 * (b / 4294967296)) / 4294967296) + IntKind.u64.wrap (a / 4294967296 * bits BinOp.and IntKind.u64 b 4294967295) / 4294967296) + midE a b / 4294967296)

theorem and_mask (a : Nat) (h : a < 18446744073709551616) : bits BinOp.and IntKind.u64 (a : Int) 4294967295 = ((a % 4294967296 : Nat) : Int) := by
  have h1 := bits_and_u64_nat a 4294967295 h (by omega)
  have h2 : a &&& 4294967295 = a % 4294967296 := Nat.and_two_pow_sub_one_eq_mod a 32
  rw [h2] at h1
  exact h1
theorem wrap_nat (a : Nat) (h : a < 18446744073709551616) : IntKind.u64.wrap (a : Int) = (a : Int) := by rw [IntKind.wrap_u64]; omega

theorem half_mul (x y : Nat) (hx : x < 4294967296) (hy : y < 4294967296) : x * y ≤ 18446744065119617025 := by
  have := Nat.mul_le_mul (Nat.le_of_lt_succ hx) (Nat.le_of_lt_succ hy)
  exact this

theorem or_shift (x y : Nat) (hx : x < 4294967296) (hy : y < 4294967296) : bits BinOp.or IntKind.u64 (x : Int) ((y * 4294967296 : Nat) : Int) = ((x + y * 4294967296 : Nat) : Int) := by
  rw [bits_or_u64_nat _ _ (by omega) (by omega)]
  have h3 := Nat.two_pow_add_eq_or_of_lt (i := 32) (b := x) (by omega) y
  congr 1
  rw [Nat.or_comm, show y * 4294967296 = 2 ^ 32 * y by omega, ← h3]
  omega

section
variable (a b : Nat) (ha : a < 18446744073709551616) (hb : b < 18446744073709551616)

theorem mid_eq (ha : a < 18446744073709551616) (hb : b < 18446744073709551616) :
    midE a b = ((a % 4294967296 * (b % 4294967296) / 4294967296 + a % 4294967296 * (b / 4294967296) % 4294967296 + a / 4294967296 * (b % 4294967296) % 4294967296 : Nat) : Int) := by
  unfold midE
  rw [and_mask a ha, and_mask b hb]
  have m0 : a % 4294967296 < 4294967296 := Nat.mod_lt _ (by omega)
  have m1 : a / 4294967296 < 4294967296 := by omega
  have n0 : b % 4294967296 < 4294967296 := Nat.mod_lt _ (by omega)
  have n1 : b / 4294967296 < 4294967296 := by omega
  have d1 : ((a : Int) / 4294967296) = ((a / 4294967296 : Nat) : Int) := by omega
  have d2 : ((b : Int) / 4294967296) = ((b / 4294967296 : Nat) : Int) := by omega
  rw [d1, d2]
  generalize a % 4294967296 = a0 at *
  generalize a / 4294967296 = a1 at *
  generalize b % 4294967296 = b0 at *
  generalize b / 4294967296 = b1 at *
  have q00 := half_mul a0 b0 m0 n0
  have q01 := half_mul a0 b1 m0 n1
  have q10 := half_mul a1 b0 m1 n0
  rw [← Int.natCast_mul, ← Int.natCast_mul, ← Int.natCast_mul]
  generalize a0 * b0 = p00 at *
  generalize a0 * b1 = p01 at *
  generalize a1 * b0 = p10 at *
  rw [wrap_nat p00 (by omega), wrap_nat p01 (by omega), wrap_nat p10 (by omega), and_mask p01 (by omega), and_mask p10 (by omega)]
  have e1 : ((p00 : Int) / 4294967296 + ((p01 % 4294967296 : Nat) : Int)) = ((p00 / 4294967296 + p01 % 4294967296 : Nat) : Int) := by omega
  rw [e1, wrap_nat _ (by omega), ← Int.natCast_add, wrap_nat _ (by omega)]

theorem prod_split (a0 a1 b0 b1 : Nat) : (a1 * 4294967296 + a0) * (b1 * 4294967296 + b0) = a1 * b1 * 18446744073709551616 + (a0 * b1 + a1 * b0) * 4294967296 + a0 * b0 := by
  rw [Nat.add_mul, Nat.mul_add, Nat.mul_add]
  have e1 : a1 * 4294967296 * (b1 * 4294967296) = a1 * b1 * 18446744073709551616 := by
    rw [Nat.mul_mul_mul_comm]
  have e2 : a1 * 4294967296 * b0 = a1 * b0 * 4294967296 := Nat.mul_right_comm _ _ _
  have e3 : a0 * (b1 * 4294967296) = a0 * b1 * 4294967296 := (Nat.mul_assoc _ _ _).symm
  rw [e1, e2, e3]
  omega

theorem lo_eq (ha : a < 18446744073709551616) (hb : b < 18446744073709551616) : loE a b = ((a * b % 18446744073709551616 : Nat) : Int) := by
  unfold loE
  rw [mid_eq a b ha hb, and_mask a ha, and_mask b hb]
  have m0 : a % 4294967296 < 4294967296 := Nat.mod_lt _ (by omega)
  have m1 : a / 4294967296 < 4294967296 := by omega
  have n0 : b % 4294967296 < 4294967296 := Nat.mod_lt _ (by omega)
  have n1 : b / 4294967296 < 4294967296 := by omega
  have ea : a = a / 4294967296 * 4294967296 + a % 4294967296 := by omega
  have eb : b = b / 4294967296 * 4294967296 + b % 4294967296 := by omega
  have hp := prod_split (a % 4294967296) (a / 4294967296) (b % 4294967296) (b / 4294967296)
  rw [← ea, ← eb] at hp
  rw [hp]
  clear ea eb hp
  generalize a % 4294967296 = a0 at *
  generalize a / 4294967296 = a1 at *
  generalize b % 4294967296 = b0 at *
  generalize b / 4294967296 = b1 at *
  have q00 := half_mul a0 b0 m0 n0
  have q01 := half_mul a0 b1 m0 n1
  have q10 := half_mul a1 b0 m1 n0
  rw [← Int.natCast_mul]
  generalize a0 * b0 = p00 at *
  generalize a0 * b1 = p01 at *
  generalize a1 * b0 = p10 at *
  generalize a1 * b1 = p11 at *
  rw [wrap_nat p00 (by omega), and_mask p00 (by omega)]
  obtain ⟨mid, hmid⟩ : ∃ mid, mid = p00 / 4294967296 + p01 % 4294967296 + p10 % 4294967296 := ⟨_, rfl⟩
  rw [← hmid]
  have e2 : IntKind.u64.wrap ((mid : Int) * 4294967296) = ((mid % 4294967296 * 4294967296 : Nat) : Int) := by rw [IntKind.wrap_u64]; omega
  rw [e2, or_shift _ _ (by omega) (by omega)]
  congr 1
  omega

theorem hi_eq (ha : a < 18446744073709551616) (hb : b < 18446744073709551616) : hiE a b = ((a * b / 18446744073709551616 : Nat) : Int) := by
  unfold hiE
  rw [mid_eq a b ha hb, and_mask a ha, and_mask b hb]
  have hlt : a * b < 18446744073709551616 * 18446744073709551616 := Nat.mul_lt_mul'' ha hb
  have m0 : a % 4294967296 < 4294967296 := Nat.mod_lt _ (by omega)
  have m1 : a / 4294967296 < 4294967296 := by omega
  have n0 : b % 4294967296 < 4294967296 := Nat.mod_lt _ (by omega)
  have n1 : b / 4294967296 < 4294967296 := by omega
  have d1 : ((a : Int) / 4294967296) = ((a / 4294967296 : Nat) : Int) := by omega
  have d2 : ((b : Int) / 4294967296) = ((b / 4294967296 : Nat) : Int) := by omega
  rw [d1, d2]
  have ea : a = a / 4294967296 * 4294967296 + a % 4294967296 := by omega
  have eb : b = b / 4294967296 * 4294967296 + b % 4294967296 := by omega
  have hp := prod_split (a % 4294967296) (a / 4294967296) (b % 4294967296) (b / 4294967296)
  rw [← ea, ← eb] at hp
  rw [hp] at hlt ⊢
  clear ea eb hp
  generalize a % 4294967296 = a0 at *
  generalize a / 4294967296 = a1 at *
  generalize b % 4294967296 = b0 at *
  generalize b / 4294967296 = b1 at *
  have q00 := half_mul a0 b0 m0 n0
  have q01 := half_mul a0 b1 m0 n1
  have q10 := half_mul a1 b0 m1 n0
  have q11 := half_mul a1 b1 m1 n1
  rw [← Int.natCast_mul, ← Int.natCast_mul, ← Int.natCast_mul]
  generalize a0 * b0 = p00 at *
  generalize a0 * b1 = p01 at *
  generalize a1 * b0 = p10 at *
  generalize a1 * b1 = p11 at *
  obtain ⟨mid, hmid⟩ : ∃ mid, mid = p00 / 4294967296 + p01 % 4294967296 + p10 % 4294967296 := ⟨_, rfl⟩
  rw [← hmid]
  rw [wrap_nat p11 (by omega), wrap_nat p01 (by omega), wrap_nat p10 (by omega)]
  have e1 : ((p11 : Int) + (p01 : Int) / 4294967296) = ((p11 + p01 / 4294967296 : Nat) : Int) := by omega
  rw [e1, wrap_nat _ (by omega)]
  have e2 : (((p11 + p01 / 4294967296 : Nat) : Int) + (p10 : Int) / 4294967296) = ((p11 + p01 / 4294967296 + p10 / 4294967296 : Nat) : Int) := by omega
  rw [e2, wrap_nat _ (by omega)]
  have e3 : (((p11 + p01 / 4294967296 + p10 / 4294967296 : Nat) : Int) + (mid : Int) / 4294967296) = ((p11 + p01 / 4294967296 + p10 / 4294967296 + mid / 4294967296 : Nat) : Int) := by omega
  rw [e3, wrap_nat _ (by omega)]
  congr 1
  omega
end

end Go.Proofs.Qxb6600555aMods.Lim
