/-
  The copy (20) into another.
-/
import Derived.Test.Qxb6600201aModsWb
namespace Go.Proofs.Qxb6600201aMods.Boot
open Go.RowKit
set_option linter.unusedVariables false

set_option maxHeartbeats 1000000 in
set_option maxRecDepth 100000 in
/-- The copy into another: a set pointer comes out new, its pointee reads as in's; nothing but out's own block turns. -/
theorem into_any (bi bo : Nat) (r s x y : Option Nat) (A1 A2 A3 A4 S : ByteArray) (w : World) (hne : bi ≠ bo) (hi : Blk w bi #[ptr r, ptr s] 44) (ho : Blk w bo #[ptr x, ptr y] 44)
    (hr : ∀ b, r = some b → b ≠ bo ∧ Blk w b #[.string A1, .string A2, .string A3, .string A4] 39) (hs : ∀ b, s = some b → b ≠ bo ∧ Blk w b #[.string S] 9) :
    Calls Trym.prog 20 #[.pointer (some ⟨bi, 0, none⟩), .pointer (some ⟨bo, 0, none⟩)] w fun e w' => e = .returned (.tuple #[]) ∧ Kept bo w w' ∧ ∃ r' s', Blk w' bo #[ptr r', ptr s'] 44 ∧
      (r = none → r' = none) ∧ (r ≠ none → ∃ b, r' = some b ∧ w.heap.size ≤ b ∧ Blk w' b #[.string A1, .string A2, .string A3, .string A4] 39) ∧ (s = none → s' = none) ∧ (s ≠ none → ∃ b, s' = some b ∧ w.heap.size ≤ b ∧ Blk w' b #[.string S] 9) := by
  have HI : Hid (Blk w bi #[ptr r, ptr s] 44) := hi
  have HO : Hid (Blk w bo #[ptr x, ptr y] 44) := ho
  have HR0 : Hid (∀ b, r = some b → b ≠ bo ∧ Blk w b #[.string A1, .string A2, .string A3, .string A4] 39) := hr
  have HS0 : Hid (∀ b, s = some b → b ≠ bo ∧ Blk w b #[.string S] 9) := hs
  have c0 := hi.cell 0
  have c1 := hi.cell 1
  have o0 := ho.cell 0
  have o1 := ho.cell 1
  have f0 := ho.free 0
  have f1 := ho.free 1
  have hl := ho.lt
  simp at c0 c1 o0 o1
  clear hi ho hr hs
  go_enter Trym.func20, Trym.ntmps20
  go_upto_region 0 with fail
  go_cut [8] (fun _ wx => Kept bo w wx ∧ Blk wx bo #[ptr r, ptr s] 44)
  case first =>
    have hset : Kept bo w ((w.setCell ⟨bo, 0, none⟩ (ptr r)).setCell ⟨bo, 1, none⟩ (ptr s)) ∧ Blk ((w.setCell ⟨bo, 0, none⟩ (ptr r)).setCell ⟨bo, 1, none⟩ (ptr s)) bo #[ptr r, ptr s] 44 :=
      ⟨((Kept.refl _ _).set _ _).set _ _, by simpa using (HO.out.set 0 (ptr r)).set 1 (ptr s)⟩
    have HS := Go.RowKit.Hid.out hset
    cases r <;> cases s <;> simp only [ptr] at c0 c1 ⊢ <;> go_wp2 <;> go_meet
    all_goals exact HS
  case rest =>
    obtain ⟨hk, hb⟩ := hcut
    clear c0 c1 f0 f1 o0 o1 HO
    have hbi := hk.keep _ _ _ HI.out hne
    have c0 := hbi.cell 0
    have HBI : Hid (Blk wc bi #[ptr r, ptr s] 44) := hbi
    have HB : Hid (Blk wc bo #[ptr r, ptr s] 44) := hb
    clear hb hbi
    simp at c0
    go_upto_region 1 with fail
    go_cut [17] (fun t wx => wc = wx ∧ t = .bool r.isSome)
    case first =>
      cases r <;> simp only [ptr] at c0 ⊢ <;> go_wp2 <;> go_meet
      all_goals exact ⟨rfl, rfl⟩
    case rest =>
      obtain ⟨rfl, rfl⟩ := hcut
      go_upto_if 17 with fail
      go_cut [4, 5] (fun _ _ wx => Kept bo w wx ∧ ∃ r', Blk wx bo #[ptr r', ptr s] 44 ∧ (r = none → r' = none) ∧ (r ≠ none → ∃ b, r' = some b ∧ w.heap.size ≤ b ∧ b ≠ bo ∧ Blk wx b #[.string A1, .string A2, .string A3, .string A4] 39))
      case first =>
        cases r with
        | none =>
          go_wp2
          go_meet
          case rel => exact ⟨hk, none, HB.out, fun _ => rfl, fun h => absurd rfl h⟩
        | some br =>
          simp only [ptr] at c0
          go_upto_region 2 with fail
          go_cut [4, 5] (fun p q wx => p = .pointer (some ⟨bi, 0, none⟩) ∧ q = .pointer (some ⟨bo, 0, none⟩) ∧ Kept bo w wx ∧ Blk wx bo #[ptr (some br), ptr s] 44)
          case first =>
            go_quiet (fail)
            go_wp2
            go_meet
            case rel => exact ⟨rfl, rfl, hk.drewN _, HB.out.drewN _⟩
          case rest =>
            obtain ⟨rfl, rfl, hk1, hb1⟩ := hcut
            clear c0
            have HB1 : Hid (Blk wc bo #[ptr (some br), ptr s] 44) := hb1
            have c0 := hb1.cell 0
            have f0 := hb1.free 0
            have hl3 := hb1.lt
            simp [ptr] at c0
            clear hb1
            go_upto_region 3 with fail
            go_cut [24] (fun _ wx => Kept bo w wx ∧ ∃ n, w.heap.size ≤ n ∧ n ≠ bo ∧ Blk wx bo #[ptr (some n), ptr s] 44 ∧ Blk wx n #[emp, emp, emp, emp] 39)
            case first =>
              go_wp2
              go_meet
              case rel =>
                refine ⟨(hk1.set _ _).alloc _ _, wc.heap.size, hk1.size, by omega, ?_, ?_⟩
                · exact (by simpa [ptr] using HB1.out.set 0 (ptr (some wc.heap.size)) : Blk (wc.setCell ⟨bo, 0, none⟩ (ptr (some wc.heap.size))) bo #[ptr (some wc.heap.size), ptr s] 44).old _
                · exact Blk.new _ _ _ _ (by simp)
            case rest =>
              obtain ⟨hk2, n, hn1, hn2, hb2, hb3⟩ := hcut
              have HB2 : Hid (Blk wc bo #[ptr (some n), ptr s] 44) := hb2
              have HB3 : Hid (Blk wc n #[emp, emp, emp, emp] 39) := hb3
              obtain ⟨hbr, hB4⟩ := HR0.out br rfl
              have hb4 := hk2.keep _ _ _ hB4 hbr
              have hb5 := hk2.keep _ _ _ HI.out hne
              have nbr : ¬ br = n := by have := hB4.lt; omega
              have nbr2 : ¬ n = br := fun h => nbr h.symm
              clear c0 f0 HB1 HB hk hk1
              have c0 := hb2.cell 0
              have f0 := hb2.free 0
              have i0 := hb5.cell 0
              have d0 := hb3.cell 0
              have d1 := hb3.cell 1
              have d2 := hb3.cell 2
              have d3 := hb3.cell 3
              have e0 := hb3.free 0
              have e1 := hb3.free 1
              have e2 := hb3.free 2
              have e3 := hb3.free 3
              have g0 := hb4.cell 0
              have g1 := hb4.cell 1
              have g2 := hb4.cell 2
              have g3 := hb4.cell 3
              simp [ptr, emp] at c0 i0 d0 d1 d2 d3 g0 g1 g2 g3
              clear hb2 hb3 hb4 hb5 hB4
              go_wp2
              go_region
              all_goals go_wp2
              all_goals go_meet
              case rel =>
                have b4 : Blk ((((wc.drew.setCell ⟨n, 0, none⟩ (.string A1)).setCell ⟨n, 1, none⟩ (.string A2)).setCell ⟨n, 2, none⟩ (.string A3)).setCell ⟨n, 3, none⟩ (.string A4)) n #[.string A1, .string A2, .string A3, .string A4] 39 := by
                  simpa using (((HB3.out.drew.set 0 (.string A1)).set 1 (.string A2)).set 2 (.string A3)).set 3 (.string A4)
                have b5 : Blk ((((wc.drew.setCell ⟨n, 0, none⟩ (.string A1)).setCell ⟨n, 1, none⟩ (.string A2)).setCell ⟨n, 2, none⟩ (.string A3)).setCell ⟨n, 3, none⟩ (.string A4)) bo #[ptr (some n), ptr s] 44 :=
                  (((HB2.out.drew.keep (by exact Ne.symm hn2) _).keep (by exact Ne.symm hn2) _).keep (by exact Ne.symm hn2) _).keep (by exact Ne.symm hn2) _
                exact ⟨(((hk2.drew.setNew _ _ _ hn1 hl).setNew _ _ _ hn1 hl).setNew _ _ _ hn1 hl).setNew _ _ _ hn1 hl, some n, b5, fun h => by simp at h, fun _ => ⟨n, rfl, hn1, hn2, b4⟩⟩
      case rest =>
        obtain ⟨hk, r', hb, hr1, hr2⟩ := hcut
        clear HB c0
        have HR : Hid ((r = none → r' = none) ∧ (r ≠ none → ∃ b, r' = some b ∧ w.heap.size ≤ b ∧ b ≠ bo ∧ Blk wc b #[.string A1, .string A2, .string A3, .string A4] 39)) := ⟨hr1, hr2⟩
        clear hr1 hr2
        have HB : Hid (Blk wc bo #[ptr r', ptr s] 44) := hb
        have hbi := hk.keep _ _ _ HI.out hne
        have c1 := hbi.cell 1
        clear hb hbi
        simp at c1
        cases s with
        | none =>
          simp only [ptr] at c1
          go_wp2
          go_end0
          refine ⟨rfl, hk, r', none, HB.out, HR.out.1, fun h => ?_, ?_⟩
          · obtain ⟨b, h1, h2, h3, h4⟩ := HR.out.2 h
            exact ⟨b, h1, h2, h4⟩
          · rfl
        | some bs =>
          simp only [ptr] at c1
          go_upto_region 6 with fail
          go_cut [6, 7] (fun p q wx => p = .pointer (some ⟨bi, 1, none⟩) ∧ q = .pointer (some ⟨bo, 1, none⟩) ∧ Kept bo w wx ∧ Kept bo wc wx ∧ Blk wx bo #[ptr r', ptr (some bs)] 44)
          case first =>
            go_quiet (fail)
            go_wp2
            go_meet
            case rel => exact ⟨rfl, rfl, hk.drewN _, (Kept.refl _ _).drewN _, HB.out.drewN _⟩
          case rest =>
            obtain ⟨rfl, rfl, hk1, hj1, hb1⟩ := hcut
            clear c1
            have HB1 : Hid (Blk wc bo #[ptr r', ptr (some bs)] 44) := hb1
            have c1 := hb1.cell 1
            have f1 := hb1.free 1
            have hl3 := hb1.lt
            simp [ptr] at c1
            clear hb1
            go_upto_region 7 with fail
            go_cut [47] (fun _ wx => Kept bo w wx ∧ Kept bo wc wx ∧ ∃ n, w.heap.size ≤ n ∧ wc.heap.size ≤ n ∧ n ≠ bo ∧ Blk wx bo #[ptr r', ptr (some n)] 44 ∧ Blk wx n #[emp] 9)
            case first =>
              go_wp2
              go_meet
              case rel =>
                refine ⟨(hk1.set _ _).alloc _ _, ((Kept.refl _ _).set _ _).alloc _ _, wc.heap.size, hk1.size, Nat.le_refl _, by omega, ?_, ?_⟩
                · exact (by simpa [ptr] using HB1.out.set 1 (ptr (some wc.heap.size)) : Blk (wc.setCell ⟨bo, 1, none⟩ (ptr (some wc.heap.size))) bo #[ptr r', ptr (some wc.heap.size)] 44).old _
                · exact Blk.new _ _ _ _ (by simp)
            case rest =>
              obtain ⟨hk2, hj2, n, hn1, hn3, hn2, hb2, hb3⟩ := hcut
              have hj := hj1.trans hj2
              have hjs := hj1.size
              have HB2 : Hid (Blk wc bo #[ptr r', ptr (some n)] 44) := hb2
              have HB3 : Hid (Blk wc n #[emp] 9) := hb3
              obtain ⟨hbs, hB4⟩ := HS0.out bs rfl
              have hb4 := hk2.keep _ _ _ hB4 hbs
              have hb5 := hk2.keep _ _ _ HI.out hne
              have nbr : ¬ bs = n := by have := hB4.lt; omega
              have nbr2 : ¬ n = bs := fun h => nbr h.symm
              clear c1 f1 HB1 HB hk hk1 hj1 hj2
              have c1 := hb2.cell 1
              have f1 := hb2.free 1
              have i1 := hb5.cell 1
              have d0 := hb3.cell 0
              have e0 := hb3.free 0
              have g0 := hb4.cell 0
              simp [ptr, emp] at c1 d0 i1 g0
              clear hb2 hb3 hb4 hb5 hB4
              go_wp2
              go_region
              all_goals go_wp2
              go_end0
              have b4 : Blk (wc.drew.setCell ⟨n, 0, none⟩ (.string S)) n #[.string S] 9 := by simpa using HB3.out.drew.set 0 (.string S)
              have b5 : Blk (wc.drew.setCell ⟨n, 0, none⟩ (.string S)) bo #[ptr r', ptr (some n)] 44 := HB2.out.drew.keep (by exact Ne.symm hn2) _
              refine ⟨rfl, hk2.drew.setNew _ _ _ hn1 hl, r', some n, b5, HR.out.1, fun h => ?_, fun h => by simp at h, fun _ => ⟨n, rfl, hn1, b4⟩⟩
              obtain ⟨b, h1, h2, h3, h4⟩ := HR.out.2 h
              have h5 := h4.lt
              exact ⟨b, h1, h2, (hj.keep _ _ _ h4 h3).drew.keep (by simp; omega) _⟩

end Go.Proofs.Qxb6600201aMods.Boot
