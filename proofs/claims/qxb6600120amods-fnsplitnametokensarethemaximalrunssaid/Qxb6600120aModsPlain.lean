/-
  Plain lists and numbers, no Go: the maximal runs of digits and of others.
-/
import Derived.KernelRfl
namespace Go.Proofs.Qxb6600120aMods.Spl
set_option linter.unusedVariables false

/-- Is the byte a decimal digit? -/
def isd (y : Int) : Bool := decide (48 ≤ y ∧ y ≤ 57)
def dg (z : List Int) (j : Nat) : Bool := isd (z.getD j 0)

/-- A token: the places s .. e-1, and its number. -/
structure Tok where
  s : Nat
  e : Nat
  x : Int

def tk (ts : List Tok) (k : Nat) : Tok := ts.getD k ⟨0, 0, 0⟩
/-- Where token k begins; behind the last: the end. -/
def bnd (ts : List Tok) (i k : Nat) : Nat := if k < ts.length then (tk ts k).s else i

structure Good (z : List Int) (ts : List Tok) (i : Nat) : Prop where
  le : i ≤ z.length
  zero : bnd ts i 0 = 0
  cnt : ts.length ≤ i
  lo : ∀ k, k < ts.length → (tk ts k).s < (tk ts k).e
  hi : ∀ k, k < ts.length → (tk ts k).e ≤ i
  nxt : ∀ k, k < ts.length → (tk ts k).e = bnd ts i (k + 1)
  run : ∀ k, k < ts.length → ∀ j, (tk ts k).s ≤ j → j < (tk ts k).e → dg z j = dg z (tk ts k).s
  edge : ∀ k, k < ts.length → 0 < k → dg z ((tk ts k).s - 1) ≠ dg z (tk ts k).s

theorem good_start (z : List Int) : Good z [] 0 := by
  refine ⟨by omega, rfl, by simp, ?_, ?_, ?_, ?_, ?_⟩ <;> (intro k hk; simp at hk)

theorem tk_left {ts : List Tok} {t : Tok} {k : Nat} (h : k < ts.length) : tk (ts ++ [t]) k = tk ts k := by
  unfold tk; simp [List.getD, List.getElem?_append_left h]
theorem tk_last {ts : List Tok} {t : Tok} : tk (ts ++ [t]) ts.length = t := by
  unfold tk; simp [List.getD]

theorem bnd_end (ts : List Tok) (i : Nat) : bnd ts i ts.length = i := by unfold bnd; simp
theorem bnd_lt {ts : List Tok} {i k : Nat} (h : k < ts.length) : bnd ts i k = (tk ts k).s := by unfold bnd; rw [if_pos h]

theorem good_snoc {z : List Int} {ts : List Tok} {i k : Nat} {x : Int} (h : Good z ts i) (hik : i < k) (hk : k ≤ z.length) (hr : ∀ j, i ≤ j → j < k → dg z j = dg z i) (he : 0 < i → dg z (i - 1) ≠ dg z i) :
    Good z (ts ++ [⟨i, k, x⟩]) k := by
  have hlen : (ts ++ [(⟨i, k, x⟩ : Tok)]).length = ts.length + 1 := by simp
  have hb : ∀ q, q ≤ ts.length → bnd (ts ++ [(⟨i, k, x⟩ : Tok)]) k q = bnd ts i q := by
    intro q hq
    by_cases e : q = ts.length
    · subst e
      rw [bnd_end, bnd_lt (by omega), tk_last]
    · rw [bnd_lt (by omega), bnd_lt (by omega), tk_left (by omega)]
  have hc : ∀ q, q < ts.length + 1 → q < ts.length ∨ q = ts.length := fun q hq => by omega
  refine ⟨hk, by rw [hb 0 (by omega)]; exact h.zero, ?_, ?_, ?_, ?_, ?_, ?_⟩
  · have := h.cnt; rw [hlen]; omega
  · intro q hq
    rw [hlen] at hq
    rcases hc q hq with h1 | rfl
    · rw [tk_left h1]; exact h.lo q h1
    · rw [tk_last]; exact hik
  · intro q hq
    rw [hlen] at hq
    rcases hc q hq with h1 | rfl
    · rw [tk_left h1]; have := h.hi q h1; omega
    · rw [tk_last]; exact Nat.le_refl _
  · intro q hq
    rw [hlen] at hq
    rcases hc q hq with h1 | rfl
    · rw [tk_left h1, hb _ (by omega)]; exact h.nxt q h1
    · rw [tk_last, ← hlen, bnd_end]
  · intro q hq
    rw [hlen] at hq
    rcases hc q hq with h1 | rfl
    · rw [tk_left h1]; exact h.run q h1
    · rw [tk_last]; exact hr
  · intro q hq hq0
    rw [hlen] at hq
    rcases hc q hq with h1 | rfl
    · rw [tk_left h1]; exact h.edge q h1 hq0
    · rw [tk_last]
      refine he ?_
      have := h.cnt
      omega

end Go.Proofs.Qxb6600120aMods.Spl
