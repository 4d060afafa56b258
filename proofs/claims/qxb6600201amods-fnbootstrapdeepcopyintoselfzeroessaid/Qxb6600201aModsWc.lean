/-
  The law 'SelfZeroes' (7): the four ways of its two bools.
-/
import Derived.Test.Qxb6600201aModsWb
namespace Go.Proofs.Qxb6600201aMods.Boot
open Go.RowKit
set_option linter.unusedVariables false

def sm7 (n1 n2 n3 n4 n6 : Nat) : Bool := decide (n1 + n2 + n3 + n4 + n6 ≤ 1048576)

set_option maxHeartbeats 1000000 in
set_option maxRecDepth 100000 in
theorem small7 (a0 : Bool) (a1 a2 a3 a4 : ByteArray) (a5 : Bool) (a6 : ByteArray) (w : World) (h1 : a1.size ≤ maxLen) (h2 : a2.size ≤ maxLen) (h3 : a3.size ≤ maxLen) (h4 : a4.size ≤ maxLen) (h6 : a6.size ≤ maxLen) :
    Calls Trym.prog 21 #[.bool a0, .string a1, .string a2, .string a3, .string a4, .bool a5, .string a6] w fun e w' => e = .returned (.bool (sm7 a1.size a2.size a3.size a4.size a6.size)) ∧ w = w' := by
  unfold maxLen at h1 h2 h3 h4 h6
  go_enter Trym.func21, Trym.ntmps21
  go_wp2
  all_goals go_ret
  all_goals (refine ⟨?_, rfl⟩; first | (rw [show sm7 a1.size a2.size a3.size a4.size a6.size = true from decide_eq_true (by omega)]; rfl) | (rw [show sm7 a1.size a2.size a3.size a4.size a6.size = false from decide_eq_false (by omega)]; rfl))

set_option maxHeartbeats 1000000 in
set_option maxRecDepth 100000 in
theorem self_tt (a1 a2 a3 a4 a6 : ByteArray) (w1 : a1.size ≤ 65536) (w2 : a2.size ≤ 65536) (w3 : a3.size ≤ 65536) (w4 : a4.size ≤ 65536) (w6 : a6.size ≤ 65536) (w : World)
   (h21 : ∀ w, Calls Trym.prog 21 #[.bool true, .string a1, .string a2, .string a3, .string a4, .bool true, .string a6] w fun e w' => e = .returned (.bool true) ∧ w = w') :
    Calls Trym.prog 7 #[.bool true, .string a1, .string a2, .string a3, .string a4, .bool true, .string a6] w fun e w' => e = .returned (.bool true) ∧ Grown w w' := by
  have H21 : Hid (∀ w, Calls Trym.prog 21 #[.bool true, .string a1, .string a2, .string a3, .string a4, .bool true, .string a6] w fun e w' => e = .returned (.bool true) ∧ w = w') := h21
  clear h21
  go_enter Trym.func7, Trym.ntmps7
  go_wp2_with fail
  refine (H21.out _).mono ?_
  rintro e w' ⟨rfl, rfl⟩
  clear H21
  go_wp2_with fail
  refine (self_any (w.heap.size + 1) (some (w.heap.size + 1 + 1)) (some (w.heap.size + 1 + 1 + 1)) _ ?_).mono ?_
  · exact ((Blk.new (w.alloc _) _ _ _ (by simp)).old _).old _
  · rintro e X ⟨rfl, hk, r', s', hb, hr0, hr, hs0, hs⟩
    obtain ⟨br, rfl, lr, hbr⟩ := hr (by simp)
    obtain ⟨bs, rfl, ls, hbs⟩ := hs (by simp)
    have B0 : Blk X w.heap.size #[.string a1, .string a2, .string a3, .string a4] 39 := hk.keep _ _ _ ((((Blk.new w _ _ _ rfl).old _).old _).old _) (by omega)
    have B2 : Blk X (w.heap.size + 1 + 1) #[.string a1, .string a2, .string a3, .string a4] 39 := hk.keep _ _ _ ((Blk.new _ _ _ _ (by simp)).old _) (by omega)
    have B3 : Blk X (w.heap.size + 1 + 1 + 1) #[.string a6] 9 := hk.keep _ _ _ (Blk.new _ _ _ _ (by simp)) (by omega)
    have G : Grown w X := hk.grown w (((((Grown.refl w).alloc _ _).alloc _ _).alloc _ _).alloc _ _) (by omega)
    simp at lr
    simp at ls
    have q1 : ∀ q, (binOp .eql 41 (.pointer (some ⟨br, 0, none⟩)) (.pointer (some ⟨w.heap.size + 1 + 1, 0, none⟩))).run Trym.prog (X.drewN q) = .ok (.bool false) (X.drewN q) := fun q => ref_other (hbr.drewN q) (B2.drewN q) (by omega)
    have q2 : ∀ q, (binOp .eql 42 (.pointer (some ⟨bs, 0, none⟩)) (.pointer (some ⟨w.heap.size + 1 + 1 + 1, 0, none⟩))).run Trym.prog (X.drewN q) = .ok (.bool false) (X.drewN q) := fun q => str_other (hbs.drewN q) (B3.drewN q) (by omega)
    have q3 : (binOp .eql 42 (.pointer (some ⟨bs, 0, none⟩)) (.pointer (some ⟨w.heap.size + 1 + 1 + 1, 0, none⟩))).run Trym.prog X = .ok (.bool false) X := str_other hbs B3 (by omega)
    have p1 := hb.cell 0
    have p2 := hb.cell 1
    have r0 := hbr.cell 0
    have t0 := B0.cell 0
    have u0 := B2.cell 0
    have r1 := hbr.cell 1
    have t1 := B0.cell 1
    have u1 := B2.cell 1
    have r2 := hbr.cell 2
    have t2 := B0.cell 2
    have u2 := B2.cell 2
    have r3 := hbr.cell 3
    have t3 := B0.cell 3
    have u3 := B2.cell 3
    have s0 := hbs.cell 0
    have v0 := B3.cell 0
    simp [ptr, emp] at p1 p2 r0 t0 u0 r1 t1 u1 r2 t2 u2 r3 t3 u3 s0 v0
    have ag := agg_same
    clear hk hb hbr B0 B2 hbs B3
    go_wp2
    go_quiet (fail)
    go_wp2
    go_ret
    exact ⟨rfl, grown_drewN G _⟩

set_option maxHeartbeats 1000000 in
set_option maxRecDepth 100000 in
theorem self_tf (a1 a2 a3 a4 a6 : ByteArray) (w1 : a1.size ≤ 65536) (w2 : a2.size ≤ 65536) (w3 : a3.size ≤ 65536) (w4 : a4.size ≤ 65536) (w6 : a6.size ≤ 65536) (w : World)
   (h21 : ∀ w, Calls Trym.prog 21 #[.bool true, .string a1, .string a2, .string a3, .string a4, .bool false, .string a6] w fun e w' => e = .returned (.bool true) ∧ w = w') :
    Calls Trym.prog 7 #[.bool true, .string a1, .string a2, .string a3, .string a4, .bool false, .string a6] w fun e w' => e = .returned (.bool true) ∧ Grown w w' := by
  have H21 : Hid (∀ w, Calls Trym.prog 21 #[.bool true, .string a1, .string a2, .string a3, .string a4, .bool false, .string a6] w fun e w' => e = .returned (.bool true) ∧ w = w') := h21
  clear h21
  go_enter Trym.func7, Trym.ntmps7
  go_wp2_with fail
  refine (H21.out _).mono ?_
  rintro e w' ⟨rfl, rfl⟩
  clear H21
  go_wp2_with fail
  refine (self_any (w.heap.size + 1) (some (w.heap.size + 1 + 1)) none _ ?_).mono ?_
  · exact (Blk.new (w.alloc _) _ _ _ (by simp)).old _
  · rintro e X ⟨rfl, hk, r', s', hb, hr0, hr, hs0, hs⟩
    obtain ⟨br, rfl, lr, hbr⟩ := hr (by simp)
    obtain rfl := hs0 rfl
    have B0 : Blk X w.heap.size #[.string a1, .string a2, .string a3, .string a4] 39 := hk.keep _ _ _ (((Blk.new w _ _ _ rfl).old _).old _) (by omega)
    have B2 : Blk X (w.heap.size + 1 + 1) #[.string a1, .string a2, .string a3, .string a4] 39 := hk.keep _ _ _ (Blk.new _ _ _ _ (by simp)) (by omega)
    have G : Grown w X := hk.grown w ((((Grown.refl w).alloc _ _).alloc _ _).alloc _ _) (by omega)
    simp at lr
    have q1 : ∀ q, (binOp .eql 41 (.pointer (some ⟨br, 0, none⟩)) (.pointer (some ⟨w.heap.size + 1 + 1, 0, none⟩))).run Trym.prog (X.drewN q) = .ok (.bool false) (X.drewN q) := fun q => ref_other (hbr.drewN q) (B2.drewN q) (by omega)
    have p1 := hb.cell 0
    have p2 := hb.cell 1
    have r0 := hbr.cell 0
    have t0 := B0.cell 0
    have u0 := B2.cell 0
    have r1 := hbr.cell 1
    have t1 := B0.cell 1
    have u1 := B2.cell 1
    have r2 := hbr.cell 2
    have t2 := B0.cell 2
    have u2 := B2.cell 2
    have r3 := hbr.cell 3
    have t3 := B0.cell 3
    have u3 := B2.cell 3
    simp [ptr, emp] at p1 p2 r0 t0 u0 r1 t1 u1 r2 t2 u2 r3 t3 u3
    have ag := agg_same
    clear hk hb hbr B0 B2
    go_wp2
    go_quiet (fail)
    go_wp2
    go_ret
    exact ⟨rfl, grown_drewN G _⟩

set_option maxHeartbeats 1000000 in
set_option maxRecDepth 100000 in
theorem self_ft (a1 a2 a3 a4 a6 : ByteArray) (w1 : a1.size ≤ 65536) (w2 : a2.size ≤ 65536) (w3 : a3.size ≤ 65536) (w4 : a4.size ≤ 65536) (w6 : a6.size ≤ 65536) (w : World)
   (h21 : ∀ w, Calls Trym.prog 21 #[.bool false, .string a1, .string a2, .string a3, .string a4, .bool true, .string a6] w fun e w' => e = .returned (.bool true) ∧ w = w') :
    Calls Trym.prog 7 #[.bool false, .string a1, .string a2, .string a3, .string a4, .bool true, .string a6] w fun e w' => e = .returned (.bool true) ∧ Grown w w' := by
  have H21 : Hid (∀ w, Calls Trym.prog 21 #[.bool false, .string a1, .string a2, .string a3, .string a4, .bool true, .string a6] w fun e w' => e = .returned (.bool true) ∧ w = w') := h21
  clear h21
  go_enter Trym.func7, Trym.ntmps7
  go_wp2_with fail
  refine (H21.out _).mono ?_
  rintro e w' ⟨rfl, rfl⟩
  clear H21
  go_wp2_with fail
  refine (self_any (w.heap.size + 1) none (some (w.heap.size + 1 + 1)) _ ?_).mono ?_
  · exact (Blk.new (w.alloc _) _ _ _ (by simp)).old _
  · rintro e X ⟨rfl, hk, r', s', hb, hr0, hr, hs0, hs⟩
    obtain rfl := hr0 rfl
    obtain ⟨bs, rfl, ls, hbs⟩ := hs (by simp)
    have B3 : Blk X (w.heap.size + 1 + 1) #[.string a6] 9 := hk.keep _ _ _ (Blk.new _ _ _ _ (by simp)) (by omega)
    have G : Grown w X := hk.grown w ((((Grown.refl w).alloc _ _).alloc _ _).alloc _ _) (by omega)
    simp at ls
    have q2 : ∀ q, (binOp .eql 42 (.pointer (some ⟨bs, 0, none⟩)) (.pointer (some ⟨w.heap.size + 1 + 1, 0, none⟩))).run Trym.prog (X.drewN q) = .ok (.bool false) (X.drewN q) := fun q => str_other (hbs.drewN q) (B3.drewN q) (by omega)
    have q3 : (binOp .eql 42 (.pointer (some ⟨bs, 0, none⟩)) (.pointer (some ⟨w.heap.size + 1 + 1, 0, none⟩))).run Trym.prog X = .ok (.bool false) X := str_other hbs B3 (by omega)
    have p1 := hb.cell 0
    have p2 := hb.cell 1
    have s0 := hbs.cell 0
    have v0 := B3.cell 0
    simp [ptr, emp] at p1 p2 s0 v0
    clear hk hb hbs B3
    go_wp2
    go_ret
    exact ⟨rfl, G⟩

set_option maxHeartbeats 1000000 in
set_option maxRecDepth 100000 in
theorem self_ff (a1 a2 a3 a4 a6 : ByteArray) (w1 : a1.size ≤ 65536) (w2 : a2.size ≤ 65536) (w3 : a3.size ≤ 65536) (w4 : a4.size ≤ 65536) (w6 : a6.size ≤ 65536) (w : World)
   (h21 : ∀ w, Calls Trym.prog 21 #[.bool false, .string a1, .string a2, .string a3, .string a4, .bool false, .string a6] w fun e w' => e = .returned (.bool true) ∧ w = w') :
    Calls Trym.prog 7 #[.bool false, .string a1, .string a2, .string a3, .string a4, .bool false, .string a6] w fun e w' => e = .returned (.bool true) ∧ Grown w w' := by
  have H21 : Hid (∀ w, Calls Trym.prog 21 #[.bool false, .string a1, .string a2, .string a3, .string a4, .bool false, .string a6] w fun e w' => e = .returned (.bool true) ∧ w = w') := h21
  clear h21
  go_enter Trym.func7, Trym.ntmps7
  go_wp2_with fail
  refine (H21.out _).mono ?_
  rintro e w' ⟨rfl, rfl⟩
  clear H21
  go_wp2_with fail
  refine (self_any (w.heap.size + 1) none none _ ?_).mono ?_
  · exact Blk.new (w.alloc _) _ _ _ (by simp)
  · rintro e X ⟨rfl, hk, r', s', hb, hr0, hr, hs0, hs⟩
    obtain rfl := hr0 rfl
    obtain rfl := hs0 rfl
    have G : Grown w X := hk.grown w (((Grown.refl w).alloc _ _).alloc _ _) (by omega)
    have p1 := hb.cell 0
    have p2 := hb.cell 1
    simp [ptr] at p1 p2
    clear hk hb
    go_wp2
    go_ret
    exact ⟨rfl, G⟩

set_option maxHeartbeats 1000000 in
set_option maxRecDepth 100000 in
theorem law7_big (a0 : Bool) (a1 a2 a3 a4 : ByteArray) (a5 : Bool) (a6 : ByteArray) (w : World) (b : Bool) (h1 : a1.size ≤ maxLen) (h2 : a2.size ≤ maxLen) (h3 : a3.size ≤ maxLen) (h4 : a4.size ≤ maxLen) (h6 : a6.size ≤ maxLen)
    (hb : ¬ (b = true ∧ a1.size ≤ 65536 ∧ a2.size ≤ 65536 ∧ a3.size ≤ 65536 ∧ a4.size ≤ 65536 ∧ a6.size ≤ 65536))
    (h21 : ∀ w, Calls Trym.prog 21 #[.bool a0, .string a1, .string a2, .string a3, .string a4, .bool a5, .string a6] w fun e w' => e = .returned (.bool b) ∧ w = w') :
    Calls Trym.prog 7 #[.bool a0, .string a1, .string a2, .string a3, .string a4, .bool a5, .string a6] w fun e w' => e = .returned (.bool true) ∧ Grown w w' := by
  have H21 : Hid (∀ w, Calls Trym.prog 21 #[.bool a0, .string a1, .string a2, .string a3, .string a4, .bool a5, .string a6] w fun e w' => e = .returned (.bool b) ∧ w = w') := h21
  have HB : Hid (¬ (b = true ∧ a1.size ≤ 65536 ∧ a2.size ≤ 65536 ∧ a3.size ≤ 65536 ∧ a4.size ≤ 65536 ∧ a6.size ≤ 65536)) := hb
  clear h21 hb
  unfold maxLen at h1 h2 h3 h4 h6
  cases b
  · go_enter Trym.func7, Trym.ntmps7
    go_wp2_with fail
    refine (H21.out _).mono ?_
    rintro e w' ⟨rfl, rfl⟩
    go_wp2_with fail
    go_ret
    exact ⟨rfl, Grown.refl _⟩
  · by_cases g1 : a1.size ≤ 65536
    · by_cases g2 : a2.size ≤ 65536
      · by_cases g3 : a3.size ≤ 65536
        · by_cases g4 : a4.size ≤ 65536
          · have g6 : ¬ a6.size ≤ 65536 := fun h => HB.out ⟨rfl, g1, g2, g3, g4, h⟩
            go_enter Trym.func7, Trym.ntmps7
            go_wp2_with fail
            refine (H21.out _).mono ?_
            rintro e w' ⟨rfl, rfl⟩
            go_wp2_with fail
            go_ret
            exact ⟨rfl, Grown.refl _⟩
          · go_enter Trym.func7, Trym.ntmps7
            go_wp2_with fail
            refine (H21.out _).mono ?_
            rintro e w' ⟨rfl, rfl⟩
            go_wp2_with fail
            go_ret
            exact ⟨rfl, Grown.refl _⟩
        · go_enter Trym.func7, Trym.ntmps7
          go_wp2_with fail
          refine (H21.out _).mono ?_
          rintro e w' ⟨rfl, rfl⟩
          go_wp2_with fail
          go_ret
          exact ⟨rfl, Grown.refl _⟩
      · go_enter Trym.func7, Trym.ntmps7
        go_wp2_with fail
        refine (H21.out _).mono ?_
        rintro e w' ⟨rfl, rfl⟩
        go_wp2_with fail
        go_ret
        exact ⟨rfl, Grown.refl _⟩
    · go_enter Trym.func7, Trym.ntmps7
      go_wp2_with fail
      refine (H21.out _).mono ?_
      rintro e w' ⟨rfl, rfl⟩
      go_wp2_with fail
      go_ret
      exact ⟨rfl, Grown.refl _⟩


theorem law7 (a0 : Bool) (a1 a2 a3 a4 : ByteArray) (a5 : Bool) (a6 : ByteArray) (w : World) (h1 : a1.size ≤ maxLen) (h2 : a2.size ≤ maxLen) (h3 : a3.size ≤ maxLen) (h4 : a4.size ≤ maxLen) (h6 : a6.size ≤ maxLen) :
    Calls Trym.prog 7 #[.bool a0, .string a1, .string a2, .string a3, .string a4, .bool a5, .string a6] w fun e w' => e = .returned (.bool true) ∧ Grown w w' := by
  have k := fun w => small7 a0 a1 a2 a3 a4 a5 a6 w h1 h2 h3 h4 h6
  by_cases hb : sm7 a1.size a2.size a3.size a4.size a6.size = true ∧ a1.size ≤ 65536 ∧ a2.size ≤ 65536 ∧ a3.size ≤ 65536 ∧ a4.size ≤ 65536 ∧ a6.size ≤ 65536
  · obtain ⟨e, g1, g2, g3, g4, g6⟩ := hb
    rw [e] at k
    cases a0 <;> cases a5
    · exact self_ff a1 a2 a3 a4 a6 g1 g2 g3 g4 g6 w k
    · exact self_ft a1 a2 a3 a4 a6 g1 g2 g3 g4 g6 w k
    · exact self_tf a1 a2 a3 a4 a6 g1 g2 g3 g4 g6 w k
    · exact self_tt a1 a2 a3 a4 a6 g1 g2 g3 g4 g6 w k
  · exact law7_big a0 a1 a2 a3 a4 a5 a6 w _ h1 h2 h3 h4 h6 hb k

end Go.Proofs.Qxb6600201aMods.Boot
