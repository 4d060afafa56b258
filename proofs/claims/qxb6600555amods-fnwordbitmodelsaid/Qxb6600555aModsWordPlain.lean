/-
  Plain numbers, no Go: bytes laid one above another, and their bits.
-/
import Derived.KernelRfl
namespace Go.Proofs.Qxb6600555aMods.Word
set_option linter.unusedVariables false

/-- The c bytes from place j on, the first the lowest. -/
def vb (f : Nat → Nat) (j : Nat) : Nat → Nat
  | 0 => 0
  | c + 1 => f j + 256 * vb f (j + 1) c

theorem vb_lt (f : Nat → Nat) (hf : ∀ j, f j < 256) : ∀ (c j : Nat), vb f j c < 256 ^ c
  | 0, j => by simp [vb]
  | c + 1, j => by
    have h1 := vb_lt f hf c (j + 1)
    have h2 := hf j
    rw [vb, Nat.pow_succ]
    omega

theorem vb_bit (f : Nat → Nat) (hf : ∀ j, f j < 256) : ∀ (c j p : Nat), vb f j c / 2 ^ p % 2 = if p / 8 < c then f (j + p / 8) / 2 ^ (p % 8) % 2 else 0
  | 0, j, p => by simp [vb]
  | c + 1, j, p => by
    have h2 := hf j
    rw [vb]
    by_cases hp : p < 8
    · have e0 : p / 8 = 0 := by omega
      have e1 : p % 8 = p := by omega
      rw [e0, e1, if_pos (by omega)]
      simp only [Nat.add_zero]
      have e2 : 256 * vb f (j + 1) c = 2 ^ p * (2 * (2 ^ (7 - p) * vb f (j + 1) c)) := by
        have : (256 : Nat) = 2 ^ p * 2 * 2 ^ (7 - p) := by
          rw [← Nat.pow_succ, ← Nat.pow_add, show p.succ + (7 - p) = 8 by omega]
        rw [this]
        simp only [Nat.mul_assoc]
      rw [e2, Nat.add_mul_div_left _ _ (Nat.two_pow_pos p)]
      omega
    · obtain ⟨q, rfl⟩ : ∃ q, p = q + 8 := ⟨p - 8, by omega⟩
      have ih := vb_bit f hf c (j + 1) q
      have e0 : (q + 8) / 8 = q / 8 + 1 := by omega
      have e1 : (q + 8) % 8 = q % 8 := by omega
      have e2 : (f j + 256 * vb f (j + 1) c) / 2 ^ (q + 8) = vb f (j + 1) c / 2 ^ q := by
        rw [Nat.pow_add, Nat.mul_comm (2 ^ q), ← Nat.div_div_eq_div_mul]
        congr 1
        omega
      rw [e2, ih, e0, e1, show j + (q / 8 + 1) = j + 1 + q / 8 by omega]
      by_cases h : q / 8 < c
      · rw [if_pos h, if_pos (by omega)]
      · rw [if_neg h, if_neg (by omega)]

/-- Byte j of a text; 0 past its end. -/
def byteAt (s : ByteArray) (j : Nat) : Nat := if h : j < s.size then (s[j]).toNat else 0
theorem byteAt_lt (s : ByteArray) (j : Nat) : byteAt s j < 256 := by
  unfold byteAt
  split
  · exact UInt8.toNat_lt _
  · omega
theorem byteAt_in (s : ByteArray) (j : Nat) (h : j < s.size) : byteAt s j = (s[j]).toNat := by unfold byteAt; rw [dif_pos h]
theorem byteAt_out (s : ByteArray) (j : Nat) (h : ¬ j < s.size) : byteAt s j = 0 := by unfold byteAt; rw [dif_neg h]

/-- The end of the bytes of word w. -/
def hi (s : ByteArray) (w : Nat) : Nat := min s.size (8 * w + 8)
/-- The word from place k on. -/
def val (s : ByteArray) (w k : Nat) : Nat := vb (byteAt s) k (hi s w - k)
theorem val_end (s : ByteArray) (w k : Nat) (h : hi s w ≤ k) : val s w k = 0 := by
  unfold val; rw [show hi s w - k = 0 by omega]; rfl
theorem val_step (s : ByteArray) (w k : Nat) (h : k < hi s w) : val s w k = byteAt s k + 256 * val s w (k + 1) := by
  unfold val
  obtain ⟨c, hc⟩ : ∃ c, hi s w - k = c + 1 := ⟨hi s w - k - 1, by omega⟩
  rw [hc, vb, show hi s w - (k + 1) = c by omega]
theorem val_lt (s : ByteArray) (w k : Nat) (h : 8 * w ≤ k) : val s w k < 18446744073709551616 := by
  have h1 := vb_lt (byteAt s) (byteAt_lt s) (hi s w - k) k
  have h2 : hi s w - k ≤ 8 := by unfold hi; omega
  have h3 : (256 : Nat) ^ (hi s w - k) ≤ 256 ^ 8 := Nat.pow_le_pow_right (by omega) h2
  unfold val
  have h4 : (256 : Nat) ^ 8 = 18446744073709551616 := by decide
  omega
theorem val_lt' (s : ByteArray) (w k : Nat) (h : 8 * w ≤ k) : val s w (k + 1) < 72057594037927936 := by
  have h1 := vb_lt (byteAt s) (byteAt_lt s) (hi s w - (k + 1)) (k + 1)
  have h2 : hi s w - (k + 1) ≤ 7 := by unfold hi; omega
  have h3 : (256 : Nat) ^ (hi s w - (k + 1)) ≤ 256 ^ 7 := Nat.pow_le_pow_right (by omega) h2
  unfold val
  have h4 : (256 : Nat) ^ 7 = 72057594037927936 := by decide
  omega

/-- Bit p of word w is the bit of its place. -/
theorem val_bit (s : ByteArray) (w p : Nat) (hp : p < 64) : val s w (8 * w) / 2 ^ p % 2 = byteAt s ((64 * w + p) / 8) / 2 ^ ((64 * w + p) % 8) % 2 := by
  have h := vb_bit (byteAt s) (byteAt_lt s) (hi s w - 8 * w) (8 * w) p
  have e1 : (64 * w + p) / 8 = 8 * w + p / 8 := by omega
  have e2 : (64 * w + p) % 8 = p % 8 := by omega
  rw [e1, e2]
  unfold val
  rw [h]
  by_cases hlt : p / 8 < hi s w - 8 * w
  · rw [if_pos hlt]
  · rw [if_neg hlt, byteAt_out s (8 * w + p / 8) (by unfold hi at hlt; omega)]
    simp

end Go.Proofs.Qxb6600555aMods.Word
