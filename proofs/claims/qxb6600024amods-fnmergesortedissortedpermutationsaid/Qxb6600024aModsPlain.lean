/-
  Plain lists and integers, no Go: a sorted merge from the back; counting runs.
-/
import Derived.KernelRfl
namespace Go.Proofs.Qxb6600024aMods.Mrg
set_option linter.unusedVariables false

/-- Each neighbour pair is in order. -/
def srt (l : List Int) : Bool := decide (∀ j, j < l.length - 1 → l.getD j 0 ≤ l.getD (j + 1) 0)

def Up (l : List Int) : Prop := ∀ i j, i < j → j < l.length → l.getD i 0 ≤ l.getD j 0

theorem srt_no {l : List Int} {j : Nat} (h : j + 1 < l.length) (hlt : l.getD (j + 1) 0 < l.getD j 0) : srt l = false := by
  unfold srt
  refine decide_eq_false fun hall => ?_
  have := hall j (by omega)
  omega

theorem srt_yes {l : List Int} (h : ∀ j, j + 1 < l.length → l.getD j 0 ≤ l.getD (j + 1) 0) : srt l = true := by
  unfold srt
  exact decide_eq_true fun j hj => h j (by omega)

theorem up_of_srt {l : List Int} (h : srt l = true) : Up l := by
  have h1 : ∀ j, j < l.length - 1 → l.getD j 0 ≤ l.getD (j + 1) 0 := of_decide_eq_true h
  intro i j hij hj
  induction j with
  | zero => omega
  | succ j ih =>
    have := h1 j (by omega)
    by_cases e : i = j
    · subst e; exact this
    · have := ih (by omega) (by omega); omega

theorem srt_of_up {l : List Int} (h : Up l) : srt l = true := srt_yes fun j hj => h j (j + 1) (by omega) hj

theorem up_mem {l : List Int} (h : Up l) {i : Nat} {x : Int} (hi : i ≤ l.length) (hx : x ∈ l.take i) (hlt : i < l.length) : x ≤ l.getD i 0 := by
  obtain ⟨j, hj, rfl⟩ := List.mem_iff_getElem.1 hx
  have hjl : j < l.length := by simp at hj; omega
  have hji : j < i := by simp at hj; omega
  have := h j i hji hlt
  simpa [List.getD, hjl, hlt] using this

/-- What the backward merge keeps: 'S' is what has been laid at the end. -/
structure Inv (A B X : List Int) (si sj : Nat) : Prop where
  la : si ≤ A.length
  lb : sj ≤ B.length
  len : X.length = A.length + B.length
  front : ∀ t, t < si → X.getD t 0 = A.getD t 0
  up : Up (X.drop (si + sj))
  perm : (X.drop (si + sj)).Perm (A.drop si ++ B.drop sj)
  loA : ∀ x ∈ A.take si, ∀ y ∈ X.drop (si + sj), x ≤ y
  loB : ∀ x ∈ B.take sj, ∀ y ∈ X.drop (si + sj), x ≤ y

theorem inv_start (A B : List Int) : Inv A B (A ++ B) A.length B.length := by
  have e : (A ++ B).drop (A.length + B.length) = [] := List.drop_eq_nil_of_le (by simp)
  refine ⟨Nat.le_refl _, Nat.le_refl _, by simp, fun t ht => ?_, ?_, ?_, ?_, ?_⟩
  · simp [List.getD, List.getElem?_append_left ht]
  · rw [e]; intro i j _ h; simp at h
  · rw [e]; simp
  · rw [e]; intro x _ y hy; simp at hy
  · rw [e]; intro x _ y hy; simp at hy

theorem up_cons {x : Int} {l : List Int} (h : Up l) (hx : ∀ y ∈ l, x ≤ y) : Up (x :: l) := by
  intro i j hij hj
  cases j with
  | zero => omega
  | succ j =>
    have hj' : j < l.length := by simpa using hj
    cases i with
    | zero =>
      have : l[j] ∈ l := List.getElem_mem hj'
      have := hx _ this
      simpa [List.getD, hj'] using this
    | succ i =>
      have := h i j (by omega) hj'
      simpa [List.getD] using this

theorem drop_set_cons (X : List Int) (k : Nat) (x : Int) (h : k < X.length) : (X.set k x).drop k = x :: X.drop (k + 1) := by
  rw [List.drop_eq_getElem_cons (by simpa using h)]
  simp [List.drop_set]

theorem drop_cons (l : List Int) (i : Nat) (h : i < l.length) : l.drop i = l.getD i 0 :: l.drop (i + 1) := by
  rw [List.drop_eq_getElem_cons h]; simp [List.getD, List.getElem?_eq_getElem h]

theorem take_snoc (l : List Int) (i : Nat) (h : i < l.length) : l.take (i + 1) = l.take i ++ [l.getD i 0] := by
  rw [List.take_succ_eq_append_getElem h]; simp [List.getD, List.getElem?_eq_getElem h]

theorem inv_a {A B X : List Int} {si sj : Nat} (hA : Up A) (hB : Up B) (h : Inv A B X (si + 1) (sj + 1)) (hgt : B.getD sj 0 < A.getD si 0) :
    Inv A B (X.set (si + sj + 1) (A.getD si 0)) si (sj + 1) := by
  have h1 := h.la
  have h2 := h.lb
  have h3 := h.len
  have e : (X.set (si + sj + 1) (A.getD si 0)).drop (si + (sj + 1)) = A.getD si 0 :: X.drop (si + 1 + (sj + 1)) := by
    rw [show si + (sj + 1) = si + sj + 1 from by omega, drop_set_cons _ _ _ (by omega)]
    rw [show si + sj + 1 + 1 = si + 1 + (sj + 1) from by omega]
  have mA : A.getD si 0 ∈ A.take (si + 1) := by rw [take_snoc A si (by omega)]; simp
  refine ⟨by omega, h2, by simpa using h3, fun t ht => ?_, ?_, ?_, ?_, ?_⟩
  · have := h.front t (by omega)
    simp only [List.getD] at this ⊢
    rw [List.getElem?_set_ne (by omega)]
    exact this
  · rw [e]; exact up_cons h.up (h.loA _ mA)
  · rw [e, drop_cons A si (by omega)]
    exact (h.perm.cons _)
  · rw [e]
    intro x hx y hy
    rcases List.mem_cons.1 hy with rfl | hy
    · exact up_mem hA (by omega) hx (by omega)
    · exact h.loA x (by rw [take_snoc A si (by omega)]; exact List.mem_append_left _ hx) y hy
  · rw [e]
    intro x hx y hy
    rcases List.mem_cons.1 hy with rfl | hy
    · rw [take_snoc B sj (by omega)] at hx
      rcases List.mem_append.1 hx with hx | hx
      · have := up_mem hB (by omega) hx (by omega); omega
      · simp at hx; subst hx; simp at hgt ⊢; omega
    · exact h.loB x hx y hy

theorem inv_b {A B X : List Int} {si sj : Nat} (hA : Up A) (hB : Up B) (h : Inv A B X si (sj + 1)) (hle : ∀ i, si = i + 1 → A.getD i 0 ≤ B.getD sj 0) :
    Inv A B (X.set (si + sj) (B.getD sj 0)) si sj := by
  have h1 := h.la
  have h2 := h.lb
  have h3 := h.len
  have e : (X.set (si + sj) (B.getD sj 0)).drop (si + sj) = B.getD sj 0 :: X.drop (si + (sj + 1)) := by
    rw [drop_set_cons _ _ _ (by omega)]
    rw [show si + sj + 1 = si + (sj + 1) from by omega]
  have mB : B.getD sj 0 ∈ B.take (sj + 1) := by rw [take_snoc B sj (by omega)]; simp
  refine ⟨h1, by omega, by simpa using h3, fun t ht => ?_, ?_, ?_, ?_, ?_⟩
  · have := h.front t (by omega)
    simp only [List.getD] at this ⊢
    rw [List.getElem?_set_ne (by omega)]
    exact this
  · rw [e]; exact up_cons h.up (h.loB _ mB)
  · rw [e, drop_cons B sj (by omega)]
    exact (h.perm.cons _).trans List.perm_middle.symm
  · rw [e]
    intro x hx y hy
    rcases List.mem_cons.1 hy with rfl | hy
    · cases si with
      | zero => simp at hx
      | succ i =>
        have := hle i rfl
        rw [take_snoc A i (by omega)] at hx
        rcases List.mem_append.1 hx with hx | hx
        · have := up_mem hA (by omega) hx (by omega); omega
        · simp at hx; subst hx; simp at this ⊢; omega
    · exact h.loA x hx y hy
  · rw [e]
    intro x hx y hy
    rcases List.mem_cons.1 hy with rfl | hy
    · exact up_mem hB (by omega) hx (by omega)
    · exact h.loB x (by rw [take_snoc B sj (by omega)]; exact List.mem_append_left _ hx) y hy

theorem inv_end {A B X : List Int} {si : Nat} (hA : Up A) (h : Inv A B X si 0) : Up X ∧ X.Perm (A ++ B) := by
  have h1 := h.la
  have h3 := h.len
  have et : X.take si = A.take si := by
    apply List.ext_getElem?
    intro t
    by_cases ht : t < si
    · have := h.front t ht
      simp only [List.getD] at this
      rw [List.getElem?_take, List.getElem?_take, if_pos ht, if_pos ht]
      rw [List.getElem?_eq_getElem (by omega), List.getElem?_eq_getElem (by omega)] at this ⊢
      simpa using this
    · rw [List.getElem?_take, List.getElem?_take, if_neg ht, if_neg ht]
  have ex : X = A.take si ++ X.drop si := by rw [← et, List.take_append_drop]
  have hup := h.up
  have hp := h.perm
  have hlo := h.loA
  simp only [Nat.add_zero, List.drop_zero] at hup hp hlo
  constructor
  · intro i j hij hj
    by_cases hjs : j < si
    · rw [h.front i (by omega), h.front j hjs]
      exact hA i j hij (by omega)
    · by_cases his : i < si
      · have m1 : X.getD i 0 ∈ A.take si := by
          rw [h.front i his, List.mem_iff_getElem]
          exact ⟨i, by simp; omega, by simp [List.getD, show i < A.length by omega]⟩
        have m2 : X.getD j 0 ∈ X.drop si := by
          rw [List.mem_iff_getElem]
          exact ⟨j - si, by simp; omega, by simp [List.getD, show si + (j - si) = j by omega, hj]⟩
        exact hlo _ m1 _ m2
      · have := hup (i - si) (j - si) (by omega) (by simp; omega)
        simpa [List.getD, show si + (i - si) = i by omega, show si + (j - si) = j by omega] using this
  · rw [ex]
    have := hp.append_left (A.take si)
    rw [← List.append_assoc, List.take_append_drop] at this
    exact this

/-! ### Runs -/
theorem getD_drop (l : List Int) (p i : Nat) : (l.drop p).getD i 0 = l.getD (p + i) 0 := by simp [List.getD]

/-- In a sorted list whose places from p on are at least v: if the places p .. q-1 hold v and q does not, what lies from q on is what is not v from p on. -/
theorem run_filter {l : List Int} (h : Up l) {p q : Nat} {v : Int} (hpq : p ≤ q) (hq : q ≤ l.length) (hv : ∀ t, p ≤ t → t < l.length → v ≤ l.getD t 0)
    (heq : ∀ t, p ≤ t → t < q → l.getD t 0 = v) (hne : q < l.length → ¬ l.getD q 0 = v) : (l.drop p).filter (fun x => x != v) = l.drop q := by
  have e : l.drop p = (l.drop p).take (q - p) ++ l.drop q := by
    have := (List.take_append_drop (q - p) (l.drop p)).symm
    rwa [List.drop_drop, show p + (q - p) = q by omega] at this
  rw [e, List.filter_append]
  have e1 : ((l.drop p).take (q - p)).filter (fun x => x != v) = [] := by
    rw [List.filter_eq_nil_iff]
    intro x hx
    obtain ⟨t, ht, rfl⟩ := List.mem_iff_getElem.1 hx
    have ht' : t < q - p := by simp at ht; omega
    have := heq (p + t) (by omega) (by omega)
    have hl : p + t < l.length := by omega
    simp [List.getD, hl] at this
    simp [this]
  have e2 : (l.drop q).filter (fun x => x != v) = l.drop q := by
    rw [List.filter_eq_self]
    intro x hx
    obtain ⟨t, ht, rfl⟩ := List.mem_iff_getElem.1 hx
    have hl : q + t < l.length := by simp at ht; omega
    have hql : q < l.length := by omega
    have h1 := hne hql
    have h2 := hv q (by omega) hql
    have h3 : l.getD q 0 ≤ l.getD (q + t) 0 := by
      by_cases t0 : t = 0
      · subst t0; simp
      · exact h q (q + t) (by omega) hl
    have h4 : l.getD (q + t) 0 = l[q + t] := by simp [List.getD, hl]
    rw [h4] at h3
    simp
    omega
  rw [e1, e2, List.nil_append]

/-- What the check keeps: what is left of r is what is left of a and of b. -/
structure Left (R A B : List Int) (p ia ib : Nat) : Prop where
  lp : p ≤ R.length
  la : ia ≤ A.length
  lb : ib ≤ B.length
  perm : (R.drop p).Perm (A.drop ia ++ B.drop ib)

theorem left_start {R A B : List Int} (h : R.Perm (A ++ B)) : Left R A B 0 0 0 := ⟨by omega, by omega, by omega, by simpa using h⟩

theorem mem_drop {l : List Int} {p t : Nat} (h1 : p ≤ t) (h2 : t < l.length) : l.getD t 0 ∈ l.drop p := by
  rw [List.mem_iff_getElem]
  exact ⟨t - p, by simp; omega, by simp [List.getD, show p + (t - p) = t by omega, h2]⟩

theorem drop_mem {l : List Int} {p : Nat} {x : Int} (h : x ∈ l.drop p) : ∃ t, p ≤ t ∧ t < l.length ∧ x = l.getD t 0 := by
  obtain ⟨t, ht, rfl⟩ := List.mem_iff_getElem.1 h
  have hl : p + t < l.length := by simp at ht; omega
  exact ⟨p + t, by omega, hl, by simp [List.getD, hl]⟩

theorem left_ge {R A B : List Int} {p ia ib : Nat} (hR : Up R) (h : Left R A B p ia ib) (hp : p < R.length) :
    (∀ t, p ≤ t → t < R.length → R.getD p 0 ≤ R.getD t 0) ∧ (∀ t, ia ≤ t → t < A.length → R.getD p 0 ≤ A.getD t 0) ∧ (∀ t, ib ≤ t → t < B.length → R.getD p 0 ≤ B.getD t 0) := by
  have g : ∀ t, p ≤ t → t < R.length → R.getD p 0 ≤ R.getD t 0 := by
    intro t h1 h2
    by_cases e : p = t
    · subst e; exact Int.le_refl _
    · exact hR p t (by omega) h2
  have g2 : ∀ x, x ∈ A.drop ia ++ B.drop ib → R.getD p 0 ≤ x := by
    intro x hx
    obtain ⟨t, h1, h2, rfl⟩ := drop_mem (h.perm.mem_iff.2 hx)
    exact g t h1 h2
  exact ⟨g, fun t h1 h2 => g2 _ (List.mem_append_left _ (mem_drop h1 h2)), fun t h1 h2 => g2 _ (List.mem_append_right _ (mem_drop h1 h2))⟩

/-- A run of the places p .. q-1 of l that hold v, and no longer. -/
structure Run (l : List Int) (v : Int) (p q : Nat) : Prop where
  pq : p ≤ q
  ql : q ≤ l.length
  eq : ∀ t, p ≤ t → t < q → l.getD t 0 = v
  ne : q < l.length → ¬ l.getD q 0 = v

theorem left_step {R A B : List Int} {p ia ib q ja jb : Nat} (hR : Up R) (hA : Up A) (hB : Up B) (h : Left R A B p ia ib) (hp : p < R.length)
    (rq : Run R (R.getD p 0) p q) (ra : Run A (R.getD p 0) ia ja) (rb : Run B (R.getD p 0) ib jb) :
    Left R A B q ja jb ∧ p < q ∧ q - p = (ja - ia) + (jb - ib) := by
  obtain ⟨g1, g2, g3⟩ := left_ge hR h hp
  have e1 := run_filter hR rq.pq rq.ql g1 rq.eq rq.ne
  have e2 := run_filter hA ra.pq ra.ql g2 ra.eq ra.ne
  have e3 := run_filter hB rb.pq rb.ql g3 rb.eq rb.ne
  have hf := h.perm.filter (fun x => x != R.getD p 0)
  rw [List.filter_append, e1, e2, e3] at hf
  have l1 := h.perm.length_eq
  have l2 := hf.length_eq
  have hq : p < q := by
    rcases Nat.lt_or_ge p q with h' | h'
    · exact h'
    · have : p = q := by have := rq.pq; omega
      subst this
      exact absurd rfl (rq.ne hp)
  have a1 := rq.pq; have a2 := rq.ql; have a3 := ra.pq; have a4 := ra.ql; have a5 := rb.pq; have a6 := rb.ql
  simp at l1 l2
  exact ⟨⟨rq.ql, ra.ql, rb.ql, hf⟩, hq, by omega⟩

theorem left_end {R A B : List Int} {p ia ib : Nat} (h : Left R A B p ia ib) (hp : R.length ≤ p) : ia = A.length ∧ ib = B.length := by
  have l1 := h.perm.length_eq
  have := h.la
  have := h.lb
  simp at l1
  omega

end Go.Proofs.Qxb6600024aMods.Mrg
