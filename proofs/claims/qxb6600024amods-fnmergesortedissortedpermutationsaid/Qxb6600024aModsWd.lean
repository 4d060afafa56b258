/-
  The law's own walk (6).
-/
import Derived.Test.Qxb6600024aModsWb
import Derived.Test.Qxb6600024aModsWc
namespace Go.Proofs.Qxb6600024aMods.Mrg
open Go.RowKit
set_option linter.unusedVariables false

theorem rd_grown {w w' : World} {a : Option Addr} {n : Nat} {zs : List Int} (h : Rd w a n zs) (hg : w.grownBy w' none) : Rd w' a n zs := by
  refine ⟨h.1, fun hn => ?_⟩
  obtain ⟨b, off, ha, hb, hc⟩ := h.2 hn
  exact ⟨b, off, ha, Nat.lt_of_lt_of_le hb hg.size, fun t ht => hg.cell (hc t ht) (by simp)⟩

theorem rd_drewN {w : World} {a : Option Addr} {n : Nat} {zs : List Int} (q : Nat) (h : Rd w a n zs) : Rd (w.drewN q) a n zs := rd_grown h (grown_drewN w q none)

theorem ne_of_lt {v v' : Value} {w w' : World} {b b' : Nat} {A A' : List Int} (h : Own w b v A) (h' : Own w' b' v' A') (hle : w.heap.size ≤ b') : v.ownBlock = none ∨ v.ownBlock ≠ v'.ownBlock := by
  cases e : v.ownBlock with
  | none => exact .inl rfl
  | some k =>
    refine .inr ?_
    cases e' : v'.ownBlock with
    | none => simp
    | some k' =>
      have := (own_lt h e).2
      have := (own_lt h' e').1
      simp; omega

theorem own_grown {w w' : World} {base : Nat} {v : Value} {zs : List Int} (h : Own w base v zs) (hg : w.grownBy w' none) : Own w' base v zs := by
  refine own_kept h hg ?_
  cases v.ownBlock with
  | none => exact .inl rfl
  | some k => exact .inr (by simp)

theorem below_of {w w4 w5 : World} {row : Option Nat} (h : w.grownBy w4 none) (k : w4.grownBy w5 row) (hr : ∀ i, row = some i → w.heap.size ≤ i) : Below w.heap.size w w5 :=
  ((Below.refl _ _).grown h (Nat.le_refl _) (fun k hk => by cases hk)).grown k h.size hr

set_option maxHeartbeats 1000000 in
set_option maxRecDepth 100000 in
theorem law_walk (a0 : Option Addr) (n c0 : Nat) (a1 : Option Addr) (m c1 : Nat) (A B : List Int) (w : World) (h0 : Rd w a0 n A) (h1 : Rd w a1 m B) (hm0 : n ≤ maxLen) (hm1 : m ≤ maxLen)
    (hn0 : a0 = none → n = 0 ∧ c0 = 0) (hn1 : a1 = none → m = 0 ∧ c1 = 0) :
    Calls Trym.prog 6 #[.slice a0 n c0, .slice a1 m c1] w fun e w' => e = .returned (.bool true) ∧ Below w.heap.size w w' := by
  have k15 := small_any a0 n c0 a1 m c1 w hm0 hm1
  by_cases hs : n + m ≤ 1048576
  · rw [decide_eq_true hs] at k15
    by_cases g0 : n ≤ 65536
    · by_cases g1 : m ≤ 65536
      · go_enter Trym.func6, Trym.ntmps6
        go_wp2_with fail
        refine k15.mono ?_
        rintro e w' ⟨rfl, hw⟩
        have hw := hw.symm
        subst hw
        clear k15
        go_wp2_with fail
        refine (sorted_any a0 n c0 A _ (by omega) h0).mono ?_
        rintro e w' ⟨rfl, q, rfl⟩
        cases sA : srt A
        · go_wp2_with fail
          go_ret
          exact ⟨rfl, below_drewN (Below.refl _ _) _⟩
        · have SA : Hid (srt A = true) := sA
          clear sA
          go_wp2_with fail
          refine (sorted_any a1 m c1 B _ (by omega) (rd_drewN q h1)).mono ?_
          rintro e w' ⟨rfl, q2, rfl⟩
          cases sB : srt B
          · go_wp2_with fail
            go_ret
            exact ⟨rfl, below_drewN (Below.refl _ _) _⟩
          · have uA := up_of_srt SA.out
            have uB := up_of_srt sB
            clear sB SA
            have gz : w.grownBy ((w.drewN q).drewN q2) none := grown_trans (grown_drewN _ _ _) (grown_drewN _ _ _)
            generalize (w.drewN q).drewN q2 = W0 at gz ⊢
            have r0 := rd_grown h0 gz
            have r1 := rd_grown h1 gz
            clear h0 h1
            go_wp2_with fail
            refine (clone_any a0 n c0 A W0 (by omega) hn0 r0).mono ?_
            rintro e W1 ⟨b1, rfl, hb1, o1, gr1⟩
            have G1 := grown_trans gz gr1
            have r1' := rd_grown r1 gr1
            clear r0 r1
            go_wp2_with fail
            refine (clone_any a1 m c1 B W1 (by omega) hn1 r1').mono ?_
            rintro e W2 ⟨b2, rfl, hb2, o2, gr2⟩
            have G2 := grown_trans G1 gr2
            have o1' := own_grown o1 gr2
            have R1 := rd_own o1'
            have R2 := rd_own o2
            go_wp2_with fail
            refine (clone_any b1 n n A W2 (by omega) R1.2.2.2 R1.1).mono ?_
            rintro e W3 ⟨b3, rfl, hb3, o3, gr3⟩
            have G3 := grown_trans G2 gr3
            have R2' := rd_grown R2.1 gr3
            go_wp2_with fail
            refine (clone_any b2 m m B W3 (by omega) R2.2.2.2 R2').mono ?_
            rintro e W4 ⟨b4, rfl, hb4, o4, gr4⟩
            have G4 := grown_trans G3 gr4
            have o3' := own_grown o3 gr4
            have R4 := rd_own o4
            have hsz2 : W2.heap.size ≤ W4.heap.size := Nat.le_trans gr3.size gr4.size
            go_wp2_with fail
            refine (zzmerge_any W2.heap.size b3 n b4 m m A B W4 (by omega) (by omega) uA uB hsz2 o3' R4.2.2.2 R4.1).mono ?_
            rintro e W5 ⟨b5, c5, X, rfl, o5, lX, uX, pX, gr5⟩
            have R5 := rd_own o5
            have o1'' := own_grown (own_grown o1' gr3) gr4
            have o2'' := own_grown (own_grown o2 gr3) gr4
            have P1 := (rd_own (own_kept o1'' gr5 (ne_of_lt o1' o3' (Nat.le_refl _)))).1
            have P2 := (rd_own (own_kept o2'' gr5 (ne_of_lt o2 o3' (Nat.le_refl _)))).1
            have hB := below_of G4 gr5 (fun i hi => Nat.le_trans G2.size (own_lt o3' hi).1)
            have sX := srt_of_up uX
            clear o1 o2 o3 o4 o5 o1' o3' o1'' o2'' gr1 gr2 gr3 gr4 gr5 G1 G2 G3 G4 gz R1 R2 R2' R4 r1'
            have KX := fun w q => sorted_any b5 (n + m) c5 X w (by omega) q
            rw [sX] at KX
            clear sX
            go_wp2_with fail
            refine (KX _ R5.1).mono ?_
            rintro e w' ⟨rfl, q3, rfl⟩
            clear KX
            go_wp2_with fail
            refine (runs_true b5 b1 b2 (n + m) c5 n n m m X A B _ (by omega) (by omega) (by omega) (rd_drewN q3 R5.1) (rd_drewN q3 P1) (rd_drewN q3 P2) uX uA uB pX).mono ?_
            rintro e w' ⟨rfl, hw⟩
            subst hw
            go_wp2_with fail
            go_ret
            exact ⟨rfl, below_drewN hB _⟩
      · go_enter Trym.func6, Trym.ntmps6
        go_wp2_with fail
        refine k15.mono ?_
        rintro e w' ⟨rfl, hw⟩
        subst hw
        go_wp2_with fail
        go_ret
        exact ⟨rfl, Below.refl _ _⟩
    · go_enter Trym.func6, Trym.ntmps6
      go_wp2_with fail
      refine k15.mono ?_
      rintro e w' ⟨rfl, hw⟩
      subst hw
      go_wp2_with fail
      go_ret
      exact ⟨rfl, Below.refl _ _⟩
  · rw [decide_eq_false hs] at k15
    go_enter Trym.func6, Trym.ntmps6
    go_wp2_with fail
    refine k15.mono ?_
    rintro e w' ⟨rfl, hw⟩
    subst hw
    go_wp2_with fail
    go_ret
    exact ⟨rfl, Below.refl _ _⟩

end Go.Proofs.Qxb6600024aMods.Mrg
