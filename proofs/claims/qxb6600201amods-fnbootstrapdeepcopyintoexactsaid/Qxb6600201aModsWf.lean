/-
  The law 'Exact' (6): the bound on the lengths (19), the ways that end early, all ways together.
-/
import Derived.Test.Qxb6600201aModsWe1
import Derived.Test.Qxb6600201aModsWe2
import Derived.Test.Qxb6600201aModsWe3
import Derived.Test.Qxb6600201aModsWe4
namespace Go.Proofs.Qxb6600201aMods.Boot
open Go.RowKit
set_option linter.unusedVariables false

def sm6 (n1 n2 n3 n4 n6 n8 n10 : Nat) : Bool := decide (n1 + n2 + n3 + n4 + n6 + n8 + n10 ≤ 1048576)

set_option maxHeartbeats 1000000 in
set_option maxRecDepth 100000 in
theorem small6 (a0 : Bool) (a1 a2 a3 a4 : ByteArray) (a5 : Bool) (a6 : ByteArray) (a7 : Bool) (a8 : ByteArray) (a9 : Bool) (a10 : ByteArray) (w : World) (h1 : a1.size ≤ maxLen) (h2 : a2.size ≤ maxLen) (h3 : a3.size ≤ maxLen) (h4 : a4.size ≤ maxLen) (h6 : a6.size ≤ maxLen) (h8 : a8.size ≤ maxLen) (h10 : a10.size ≤ maxLen) :
    Calls Trym.prog 19 #[.bool a0, .string a1, .string a2, .string a3, .string a4, .bool a5, .string a6, .bool a7, .string a8, .bool a9, .string a10] w fun e w' => e = .returned (.bool (sm6 a1.size a2.size a3.size a4.size a6.size a8.size a10.size)) ∧ w = w' := by
  unfold maxLen at h1 h2 h3 h4 h6 h8 h10
  go_enter Trym.func19, Trym.ntmps19
  go_wp2
  all_goals go_ret
  all_goals (refine ⟨?_, rfl⟩; first | (rw [show sm6 a1.size a2.size a3.size a4.size a6.size a8.size a10.size = true from decide_eq_true (by omega)]; rfl) | (rw [show sm6 a1.size a2.size a3.size a4.size a6.size a8.size a10.size = false from decide_eq_false (by omega)]; rfl))

set_option maxHeartbeats 2000000 in
set_option maxRecDepth 100000 in
theorem law6_big (a0 : Bool) (a1 a2 a3 a4 : ByteArray) (a5 : Bool) (a6 : ByteArray) (a7 : Bool) (a8 : ByteArray) (a9 : Bool) (a10 : ByteArray) (w : World) (b : Bool) (h1 : a1.size ≤ maxLen) (h2 : a2.size ≤ maxLen) (h3 : a3.size ≤ maxLen) (h4 : a4.size ≤ maxLen) (h6 : a6.size ≤ maxLen) (h8 : a8.size ≤ maxLen) (h10 : a10.size ≤ maxLen)
    (hb : ¬ (b = true ∧ a1.size ≤ 65536 ∧ a2.size ≤ 65536 ∧ a3.size ≤ 65536 ∧ a4.size ≤ 65536 ∧ a6.size ≤ 65536 ∧ a8.size ≤ 65536 ∧ a10.size ≤ 65536))
    (h19 : ∀ w, Calls Trym.prog 19 #[.bool a0, .string a1, .string a2, .string a3, .string a4, .bool a5, .string a6, .bool a7, .string a8, .bool a9, .string a10] w fun e w' => e = .returned (.bool b) ∧ w = w') :
    Calls Trym.prog 6 #[.bool a0, .string a1, .string a2, .string a3, .string a4, .bool a5, .string a6, .bool a7, .string a8, .bool a9, .string a10] w fun e w' => e = .returned (.bool true) ∧ Grown w w' := by
  have H19 : Hid (∀ w, Calls Trym.prog 19 #[.bool a0, .string a1, .string a2, .string a3, .string a4, .bool a5, .string a6, .bool a7, .string a8, .bool a9, .string a10] w fun e w' => e = .returned (.bool b) ∧ w = w') := h19
  have HB : Hid (¬ (b = true ∧ a1.size ≤ 65536 ∧ a2.size ≤ 65536 ∧ a3.size ≤ 65536 ∧ a4.size ≤ 65536 ∧ a6.size ≤ 65536 ∧ a8.size ≤ 65536 ∧ a10.size ≤ 65536)) := hb
  clear h19 hb
  unfold maxLen at h1 h2 h3 h4 h6 h8 h10
  cases b
  · go_enter Trym.func6, Trym.ntmps6
    go_wp2_with fail
    refine (H19.out _).mono ?_
    rintro e w' ⟨rfl, rfl⟩
    go_wp2_with fail
    go_ret
    exact ⟨rfl, Grown.refl _⟩
  · by_cases g1 : a1.size ≤ 65536
    · by_cases g2 : a2.size ≤ 65536
      · by_cases g3 : a3.size ≤ 65536
        · by_cases g4 : a4.size ≤ 65536
          · by_cases g6 : a6.size ≤ 65536
            · by_cases g8 : a8.size ≤ 65536
              · have g10 : ¬ a10.size ≤ 65536 := fun h => HB.out ⟨rfl, g1, g2, g3, g4, g6, g8, h⟩
                go_enter Trym.func6, Trym.ntmps6
                go_wp2_with fail
                refine (H19.out _).mono ?_
                rintro e w' ⟨rfl, rfl⟩
                go_wp2_with fail
                go_ret
                exact ⟨rfl, Grown.refl _⟩
              · go_enter Trym.func6, Trym.ntmps6
                go_wp2_with fail
                refine (H19.out _).mono ?_
                rintro e w' ⟨rfl, rfl⟩
                go_wp2_with fail
                go_ret
                exact ⟨rfl, Grown.refl _⟩
            · go_enter Trym.func6, Trym.ntmps6
              go_wp2_with fail
              refine (H19.out _).mono ?_
              rintro e w' ⟨rfl, rfl⟩
              go_wp2_with fail
              go_ret
              exact ⟨rfl, Grown.refl _⟩
          · go_enter Trym.func6, Trym.ntmps6
            go_wp2_with fail
            refine (H19.out _).mono ?_
            rintro e w' ⟨rfl, rfl⟩
            go_wp2_with fail
            go_ret
            exact ⟨rfl, Grown.refl _⟩
        · go_enter Trym.func6, Trym.ntmps6
          go_wp2_with fail
          refine (H19.out _).mono ?_
          rintro e w' ⟨rfl, rfl⟩
          go_wp2_with fail
          go_ret
          exact ⟨rfl, Grown.refl _⟩
      · go_enter Trym.func6, Trym.ntmps6
        go_wp2_with fail
        refine (H19.out _).mono ?_
        rintro e w' ⟨rfl, rfl⟩
        go_wp2_with fail
        go_ret
        exact ⟨rfl, Grown.refl _⟩
    · go_enter Trym.func6, Trym.ntmps6
      go_wp2_with fail
      refine (H19.out _).mono ?_
      rintro e w' ⟨rfl, rfl⟩
      go_wp2_with fail
      go_ret
      exact ⟨rfl, Grown.refl _⟩

theorem law6 (a0 : Bool) (a1 a2 a3 a4 : ByteArray) (a5 : Bool) (a6 : ByteArray) (a7 : Bool) (a8 : ByteArray) (a9 : Bool) (a10 : ByteArray) (w : World) (h1 : a1.size ≤ maxLen) (h2 : a2.size ≤ maxLen) (h3 : a3.size ≤ maxLen) (h4 : a4.size ≤ maxLen) (h6 : a6.size ≤ maxLen) (h8 : a8.size ≤ maxLen) (h10 : a10.size ≤ maxLen) :
    Calls Trym.prog 6 #[.bool a0, .string a1, .string a2, .string a3, .string a4, .bool a5, .string a6, .bool a7, .string a8, .bool a9, .string a10] w fun e w' => e = .returned (.bool true) ∧ Grown w w' := by
  have k := fun w => small6 a0 a1 a2 a3 a4 a5 a6 a7 a8 a9 a10 w h1 h2 h3 h4 h6 h8 h10
  by_cases hb : sm6 a1.size a2.size a3.size a4.size a6.size a8.size a10.size = true ∧ a1.size ≤ 65536 ∧ a2.size ≤ 65536 ∧ a3.size ≤ 65536 ∧ a4.size ≤ 65536 ∧ a6.size ≤ 65536 ∧ a8.size ≤ 65536 ∧ a10.size ≤ 65536
  · obtain ⟨e, g1, g2, g3, g4, g6, g8, g10⟩ := hb
    rw [e] at k
    cases a0 <;> cases a5 <;> cases a7 <;> cases a9
    · exact into_ffff a1 a2 a3 a4 a6 a8 a10 g1 g2 g3 g4 g6 g8 g10 w k
    · exact into_ffft a1 a2 a3 a4 a6 a8 a10 g1 g2 g3 g4 g6 g8 g10 w k
    · exact into_fftf a1 a2 a3 a4 a6 a8 a10 g1 g2 g3 g4 g6 g8 g10 w k
    · exact into_fftt a1 a2 a3 a4 a6 a8 a10 g1 g2 g3 g4 g6 g8 g10 w k
    · exact into_ftff a1 a2 a3 a4 a6 a8 a10 g1 g2 g3 g4 g6 g8 g10 w k
    · exact into_ftft a1 a2 a3 a4 a6 a8 a10 g1 g2 g3 g4 g6 g8 g10 w k
    · exact into_fttf a1 a2 a3 a4 a6 a8 a10 g1 g2 g3 g4 g6 g8 g10 w k
    · exact into_fttt a1 a2 a3 a4 a6 a8 a10 g1 g2 g3 g4 g6 g8 g10 w k
    · exact into_tfff a1 a2 a3 a4 a6 a8 a10 g1 g2 g3 g4 g6 g8 g10 w k
    · exact into_tfft a1 a2 a3 a4 a6 a8 a10 g1 g2 g3 g4 g6 g8 g10 w k
    · exact into_tftf a1 a2 a3 a4 a6 a8 a10 g1 g2 g3 g4 g6 g8 g10 w k
    · exact into_tftt a1 a2 a3 a4 a6 a8 a10 g1 g2 g3 g4 g6 g8 g10 w k
    · exact into_ttff a1 a2 a3 a4 a6 a8 a10 g1 g2 g3 g4 g6 g8 g10 w k
    · exact into_ttft a1 a2 a3 a4 a6 a8 a10 g1 g2 g3 g4 g6 g8 g10 w k
    · exact into_tttf a1 a2 a3 a4 a6 a8 a10 g1 g2 g3 g4 g6 g8 g10 w k
    · exact into_tttt a1 a2 a3 a4 a6 a8 a10 g1 g2 g3 g4 g6 g8 g10 w k
  · exact law6_big a0 a1 a2 a3 a4 a5 a6 a7 a8 a9 a10 w _ h1 h2 h3 h4 h6 h8 h10 hb k

end Go.Proofs.Qxb6600201aMods.Boot
