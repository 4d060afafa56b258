/-
  The law 'Exact' (6): hasRef false, hasSecret false.
-/
import Derived.Test.Qxb6600201aModsWd
namespace Go.Proofs.Qxb6600201aMods.Boot
open Go.RowKit
set_option linter.unusedVariables false

set_option maxHeartbeats 2000000 in
set_option maxRecDepth 100000 in
theorem into_fftt (a1 a2 a3 a4 a6 a8 a10 : ByteArray) (w1 : a1.size ≤ 65536) (w2 : a2.size ≤ 65536) (w3 : a3.size ≤ 65536) (w4 : a4.size ≤ 65536) (w6 : a6.size ≤ 65536) (w8 : a8.size ≤ 65536) (w10 : a10.size ≤ 65536) (w : World)
   (h19 : ∀ w, Calls Trym.prog 19 #[.bool false, .string a1, .string a2, .string a3, .string a4, .bool false, .string a6, .bool true, .string a8, .bool true, .string a10] w fun e w' => e = .returned (.bool true) ∧ w = w') :
    Calls Trym.prog 6 #[.bool false, .string a1, .string a2, .string a3, .string a4, .bool false, .string a6, .bool true, .string a8, .bool true, .string a10] w fun e w' => e = .returned (.bool true) ∧ Grown w w' := by
  have H19 : Hid (∀ w, Calls Trym.prog 19 #[.bool false, .string a1, .string a2, .string a3, .string a4, .bool false, .string a6, .bool true, .string a8, .bool true, .string a10] w fun e w' => e = .returned (.bool true) ∧ w = w') := h19
  clear h19
  go_enter Trym.func6, Trym.ntmps6
  go_wp2_with fail
  refine (H19.out _).mono ?_
  rintro e w' ⟨rfl, rfl⟩
  clear H19
  go_wp2_with fail
  refine (into_any (w.heap.size + 1) (w.heap.size + 1 + 1) none none (some (w.heap.size + 1 + 1 + 1)) (some (w.heap.size + 1 + 1 + 1 + 1)) a1 a2 a3 a4 a6 _ (by omega) ?_ ?_ ?_ ?_).mono ?_
  · exact (((Blk.new (w.alloc _) _ _ _ (by simp)).old _).old _).old _
  · exact ((Blk.new _ _ _ _ (by simp)).old _).old _
  · intro b hb; cases hb
  · intro b hb; cases hb
  · rintro e X ⟨rfl, hk, r', s', hb, hr0, hr, hs0, hs⟩
    obtain rfl := hr0 rfl
    obtain rfl := hs0 rfl
    have BI : Blk X (w.heap.size + 1) #[ptr none, ptr none] 44 := hk.keep _ _ _ ((((Blk.new (w.alloc _) _ _ _ (by simp)).old _).old _).old _) (by omega)
    have B5 : Blk X (w.heap.size + 1 + 1 + 1) #[emp, emp, .string a8, emp] 39 := hk.keep _ _ _ ((Blk.new _ _ _ _ (by simp)).old _) (by omega)
    have B6 : Blk X (w.heap.size + 1 + 1 + 1 + 1) #[.string a10] 9 := hk.keep _ _ _ (Blk.new _ _ _ _ (by simp)) (by omega)
    have G : Grown w X := hk.grown w ((((((Grown.refl w).alloc _ _).alloc _ _).alloc _ _).alloc _ _).alloc _ _) (by omega)
    have i0 := BI.cell 0
    have i1 := BI.cell 1
    have p0 := hb.cell 0
    have p1 := hb.cell 1
    have x0 := B5.cell 0
    have x1 := B5.cell 1
    have x2 := B5.cell 2
    have x3 := B5.cell 3
    have y0 := B6.cell 0
    simp [ptr, emp] at i0 i1 p0 p1 x0 x1 x2 x3 y0
    have ag := agg_same
    clear hk hb BI B5 B6
    go_wp2
    go_quiet (fail)
    go_wp2
    go_ret
    exact ⟨rfl, grown_drewN G _⟩

set_option maxHeartbeats 2000000 in
set_option maxRecDepth 100000 in
theorem into_fftf (a1 a2 a3 a4 a6 a8 a10 : ByteArray) (w1 : a1.size ≤ 65536) (w2 : a2.size ≤ 65536) (w3 : a3.size ≤ 65536) (w4 : a4.size ≤ 65536) (w6 : a6.size ≤ 65536) (w8 : a8.size ≤ 65536) (w10 : a10.size ≤ 65536) (w : World)
   (h19 : ∀ w, Calls Trym.prog 19 #[.bool false, .string a1, .string a2, .string a3, .string a4, .bool false, .string a6, .bool true, .string a8, .bool false, .string a10] w fun e w' => e = .returned (.bool true) ∧ w = w') :
    Calls Trym.prog 6 #[.bool false, .string a1, .string a2, .string a3, .string a4, .bool false, .string a6, .bool true, .string a8, .bool false, .string a10] w fun e w' => e = .returned (.bool true) ∧ Grown w w' := by
  have H19 : Hid (∀ w, Calls Trym.prog 19 #[.bool false, .string a1, .string a2, .string a3, .string a4, .bool false, .string a6, .bool true, .string a8, .bool false, .string a10] w fun e w' => e = .returned (.bool true) ∧ w = w') := h19
  clear h19
  go_enter Trym.func6, Trym.ntmps6
  go_wp2_with fail
  refine (H19.out _).mono ?_
  rintro e w' ⟨rfl, rfl⟩
  clear H19
  go_wp2_with fail
  refine (into_any (w.heap.size + 1) (w.heap.size + 1 + 1) none none (some (w.heap.size + 1 + 1 + 1)) none a1 a2 a3 a4 a6 _ (by omega) ?_ ?_ ?_ ?_).mono ?_
  · exact ((Blk.new (w.alloc _) _ _ _ (by simp)).old _).old _
  · exact (Blk.new _ _ _ _ (by simp)).old _
  · intro b hb; cases hb
  · intro b hb; cases hb
  · rintro e X ⟨rfl, hk, r', s', hb, hr0, hr, hs0, hs⟩
    obtain rfl := hr0 rfl
    obtain rfl := hs0 rfl
    have BI : Blk X (w.heap.size + 1) #[ptr none, ptr none] 44 := hk.keep _ _ _ (((Blk.new (w.alloc _) _ _ _ (by simp)).old _).old _) (by omega)
    have B5 : Blk X (w.heap.size + 1 + 1 + 1) #[emp, emp, .string a8, emp] 39 := hk.keep _ _ _ (Blk.new _ _ _ _ (by simp)) (by omega)
    have G : Grown w X := hk.grown w (((((Grown.refl w).alloc _ _).alloc _ _).alloc _ _).alloc _ _) (by omega)
    have i0 := BI.cell 0
    have i1 := BI.cell 1
    have p0 := hb.cell 0
    have p1 := hb.cell 1
    have x0 := B5.cell 0
    have x1 := B5.cell 1
    have x2 := B5.cell 2
    have x3 := B5.cell 3
    simp [ptr, emp] at i0 i1 p0 p1 x0 x1 x2 x3
    have ag := agg_same
    clear hk hb BI B5
    go_wp2
    go_quiet (fail)
    go_wp2
    go_ret
    exact ⟨rfl, grown_drewN G _⟩

set_option maxHeartbeats 2000000 in
set_option maxRecDepth 100000 in
theorem into_ffft (a1 a2 a3 a4 a6 a8 a10 : ByteArray) (w1 : a1.size ≤ 65536) (w2 : a2.size ≤ 65536) (w3 : a3.size ≤ 65536) (w4 : a4.size ≤ 65536) (w6 : a6.size ≤ 65536) (w8 : a8.size ≤ 65536) (w10 : a10.size ≤ 65536) (w : World)
   (h19 : ∀ w, Calls Trym.prog 19 #[.bool false, .string a1, .string a2, .string a3, .string a4, .bool false, .string a6, .bool false, .string a8, .bool true, .string a10] w fun e w' => e = .returned (.bool true) ∧ w = w') :
    Calls Trym.prog 6 #[.bool false, .string a1, .string a2, .string a3, .string a4, .bool false, .string a6, .bool false, .string a8, .bool true, .string a10] w fun e w' => e = .returned (.bool true) ∧ Grown w w' := by
  have H19 : Hid (∀ w, Calls Trym.prog 19 #[.bool false, .string a1, .string a2, .string a3, .string a4, .bool false, .string a6, .bool false, .string a8, .bool true, .string a10] w fun e w' => e = .returned (.bool true) ∧ w = w') := h19
  clear h19
  go_enter Trym.func6, Trym.ntmps6
  go_wp2_with fail
  refine (H19.out _).mono ?_
  rintro e w' ⟨rfl, rfl⟩
  clear H19
  go_wp2_with fail
  refine (into_any (w.heap.size + 1) (w.heap.size + 1 + 1) none none none (some (w.heap.size + 1 + 1 + 1)) a1 a2 a3 a4 a6 _ (by omega) ?_ ?_ ?_ ?_).mono ?_
  · exact ((Blk.new (w.alloc _) _ _ _ (by simp)).old _).old _
  · exact (Blk.new _ _ _ _ (by simp)).old _
  · intro b hb; cases hb
  · intro b hb; cases hb
  · rintro e X ⟨rfl, hk, r', s', hb, hr0, hr, hs0, hs⟩
    obtain rfl := hr0 rfl
    obtain rfl := hs0 rfl
    have BI : Blk X (w.heap.size + 1) #[ptr none, ptr none] 44 := hk.keep _ _ _ (((Blk.new (w.alloc _) _ _ _ (by simp)).old _).old _) (by omega)
    have B6 : Blk X (w.heap.size + 1 + 1 + 1) #[.string a10] 9 := hk.keep _ _ _ (Blk.new _ _ _ _ (by simp)) (by omega)
    have G : Grown w X := hk.grown w (((((Grown.refl w).alloc _ _).alloc _ _).alloc _ _).alloc _ _) (by omega)
    have i0 := BI.cell 0
    have i1 := BI.cell 1
    have p0 := hb.cell 0
    have p1 := hb.cell 1
    have y0 := B6.cell 0
    simp [ptr] at i0 i1 p0 p1 y0
    clear hk hb BI B6
    go_wp2
    go_quiet (fail)
    go_wp2
    go_ret
    exact ⟨rfl, grown_drewN G _⟩

set_option maxHeartbeats 2000000 in
set_option maxRecDepth 100000 in
theorem into_ffff (a1 a2 a3 a4 a6 a8 a10 : ByteArray) (w1 : a1.size ≤ 65536) (w2 : a2.size ≤ 65536) (w3 : a3.size ≤ 65536) (w4 : a4.size ≤ 65536) (w6 : a6.size ≤ 65536) (w8 : a8.size ≤ 65536) (w10 : a10.size ≤ 65536) (w : World)
   (h19 : ∀ w, Calls Trym.prog 19 #[.bool false, .string a1, .string a2, .string a3, .string a4, .bool false, .string a6, .bool false, .string a8, .bool false, .string a10] w fun e w' => e = .returned (.bool true) ∧ w = w') :
    Calls Trym.prog 6 #[.bool false, .string a1, .string a2, .string a3, .string a4, .bool false, .string a6, .bool false, .string a8, .bool false, .string a10] w fun e w' => e = .returned (.bool true) ∧ Grown w w' := by
  have H19 : Hid (∀ w, Calls Trym.prog 19 #[.bool false, .string a1, .string a2, .string a3, .string a4, .bool false, .string a6, .bool false, .string a8, .bool false, .string a10] w fun e w' => e = .returned (.bool true) ∧ w = w') := h19
  clear h19
  go_enter Trym.func6, Trym.ntmps6
  go_wp2_with fail
  refine (H19.out _).mono ?_
  rintro e w' ⟨rfl, rfl⟩
  clear H19
  go_wp2_with fail
  refine (into_any (w.heap.size + 1) (w.heap.size + 1 + 1) none none none none a1 a2 a3 a4 a6 _ (by omega) ?_ ?_ ?_ ?_).mono ?_
  · exact (Blk.new (w.alloc _) _ _ _ (by simp)).old _
  · exact Blk.new _ _ _ _ (by simp)
  · intro b hb; cases hb
  · intro b hb; cases hb
  · rintro e X ⟨rfl, hk, r', s', hb, hr0, hr, hs0, hs⟩
    obtain rfl := hr0 rfl
    obtain rfl := hs0 rfl
    have BI : Blk X (w.heap.size + 1) #[ptr none, ptr none] 44 := hk.keep _ _ _ ((Blk.new (w.alloc _) _ _ _ (by simp)).old _) (by omega)
    have G : Grown w X := hk.grown w ((((Grown.refl w).alloc _ _).alloc _ _).alloc _ _) (by omega)
    have i0 := BI.cell 0
    have i1 := BI.cell 1
    have p0 := hb.cell 0
    have p1 := hb.cell 1
    simp [ptr] at i0 i1 p0 p1
    clear hk hb BI
    go_wp2
    go_quiet (fail)
    go_wp2
    go_ret
    exact ⟨rfl, grown_drewN G _⟩

end Go.Proofs.Qxb6600201aMods.Boot
