/-
  The copy (20): into itself, and into another.
-/
import Derived.Test.Qxb6600201aModsWa
import Derived.Deep.LoopGhost
import Derived.Deep.DeepCutAuto
import Derived.Deep.CutRange
import Derived.Deep.CutBlock
namespace Go.Proofs.Qxb6600201aMods.Boot
open Go.RowKit
set_option linter.unusedVariables false

def ptr : Option Nat → Value
  | none => .pointer none
  | some b => .pointer (some ⟨b, 0, none⟩)

def emp : Value := .string ⟨#[]⟩

set_option maxHeartbeats 1000000 in
set_option maxRecDepth 100000 in
/-- The copy into itself: a set pointer comes out new, its pointee empty. -/
theorem self_any (bi : Nat) (r s : Option Nat) (w : World) (hi : Blk w bi #[ptr r, ptr s] 44) :
    Calls Trym.prog 20 #[.pointer (some ⟨bi, 0, none⟩), .pointer (some ⟨bi, 0, none⟩)] w fun e w' => e = .returned (.tuple #[]) ∧ Kept bi w w' ∧ ∃ r' s', Blk w' bi #[ptr r', ptr s'] 44 ∧
      (r = none → r' = none) ∧ (r ≠ none → ∃ b, r' = some b ∧ w.heap.size ≤ b ∧ Blk w' b #[emp, emp, emp, emp] 39) ∧ (s = none → s' = none) ∧ (s ≠ none → ∃ b, s' = some b ∧ w.heap.size ≤ b ∧ Blk w' b #[emp] 9) := by
  have HI : Hid (Blk w bi #[ptr r, ptr s] 44) := hi
  have c0 := hi.cell 0
  have c1 := hi.cell 1
  have f0 := hi.free 0
  have f1 := hi.free 1
  have hl := hi.lt
  simp at c0 c1
  clear hi
  go_enter Trym.func20, Trym.ntmps20
  go_upto_region 0 with fail
  go_cut [8] (fun _ wx => Kept bi w wx ∧ Blk wx bi #[ptr r, ptr s] 44)
  case first =>
    have hset : Kept bi w ((w.setCell ⟨bi, 0, none⟩ (ptr r)).setCell ⟨bi, 1, none⟩ (ptr s)) ∧ Blk ((w.setCell ⟨bi, 0, none⟩ (ptr r)).setCell ⟨bi, 1, none⟩ (ptr s)) bi #[ptr r, ptr s] 44 :=
      ⟨((Kept.refl _ _).set _ _).set _ _, by simpa using (HI.out.set 0 (ptr r)).set 1 (ptr s)⟩
    have HS := Go.RowKit.Hid.out hset
    cases r <;> cases s <;> simp only [ptr] at c0 c1 ⊢ <;> go_wp2 <;> go_meet
    all_goals exact HS
  case rest =>
    obtain ⟨hk, hb⟩ := hcut
    clear c0 c1 f0 f1 HI
    have c0 := hb.cell 0
    have f0 := hb.free 0
    have hl2 := hb.lt
    have HB : Hid (Blk wc bi #[ptr r, ptr s] 44) := hb
    clear hb
    simp at c0
    go_upto_region 1 with fail
    go_cut [17] (fun t wx => wc = wx ∧ t = .bool r.isSome)
    case first =>
      cases r <;> simp only [ptr] at c0 ⊢ <;> go_wp2 <;> go_meet
      all_goals exact ⟨rfl, rfl⟩
    case rest =>
      obtain ⟨rfl, rfl⟩ := hcut
      go_upto_if 17 with fail
      go_cut [4, 5] (fun _ _ wx => Kept bi w wx ∧ ∃ r', Blk wx bi #[ptr r', ptr s] 44 ∧ (r = none → r' = none) ∧ (r ≠ none → ∃ b, r' = some b ∧ w.heap.size ≤ b ∧ b ≠ bi ∧ Blk wx b #[emp, emp, emp, emp] 39))
      case first =>
        cases r with
        | none =>
          go_wp2
          go_meet
          case rel => exact ⟨hk, none, HB.out, fun _ => rfl, fun h => absurd rfl h⟩
        | some br =>
          simp only [ptr] at c0
          go_upto_region 2 with fail
          go_cut [4, 5] (fun p q wx => p = .pointer (some ⟨bi, 0, none⟩) ∧ q = .pointer (some ⟨bi, 0, none⟩) ∧ Kept bi w wx ∧ Blk wx bi #[ptr (some br), ptr s] 44)
          case first =>
            go_quiet (fail)
            go_wp2
            go_meet
            case rel => exact ⟨rfl, rfl, hk.drewN _, HB.out.drewN _⟩
          case rest =>
            obtain ⟨rfl, rfl, hk1, hb1⟩ := hcut
            clear c0 f0
            have HB1 : Hid (Blk wc bi #[ptr (some br), ptr s] 44) := hb1
            have c0 := hb1.cell 0
            have f0 := hb1.free 0
            have hl3 := hb1.lt
            simp [ptr] at c0
            clear hb1
            go_upto_region 3 with fail
            go_cut [24] (fun _ wx => Kept bi w wx ∧ ∃ n, w.heap.size ≤ n ∧ n ≠ bi ∧ Blk wx bi #[ptr (some n), ptr s] 44 ∧ Blk wx n #[emp, emp, emp, emp] 39)
            case first =>
              go_wp2
              go_meet
              case rel =>
                refine ⟨(hk1.set _ _).alloc _ _, wc.heap.size, hk1.size, by omega, ?_, ?_⟩
                · exact (by simpa [ptr] using HB1.out.set 0 (ptr (some wc.heap.size)) : Blk (wc.setCell ⟨bi, 0, none⟩ (ptr (some wc.heap.size))) bi #[ptr (some wc.heap.size), ptr s] 44).old _
                · exact Blk.new _ _ _ _ (by simp)
            case rest =>
              obtain ⟨hk2, n, hn1, hn2, hb2, hb3⟩ := hcut
              have HB2 : Hid (Blk wc bi #[ptr (some n), ptr s] 44) := hb2
              have HB3 : Hid (Blk wc n #[emp, emp, emp, emp] 39) := hb3
              clear c0 f0 HB1 HB hk hk1
              have c0 := hb2.cell 0
              have f0 := hb2.free 0
              have d0 := hb3.cell 0
              have d1 := hb3.cell 1
              have d2 := hb3.cell 2
              have d3 := hb3.cell 3
              have e0 := hb3.free 0
              have e1 := hb3.free 1
              have e2 := hb3.free 2
              have e3 := hb3.free 3
              simp [ptr, emp] at c0 d0 d1 d2 d3
              clear hb2 hb3
              go_wp2
              go_region
              all_goals go_wp2
              all_goals go_meet
              case rel =>
                have b4 : Blk ((((wc.drew.setCell ⟨n, 0, none⟩ emp).setCell ⟨n, 1, none⟩ emp).setCell ⟨n, 2, none⟩ emp).setCell ⟨n, 3, none⟩ emp) n #[emp, emp, emp, emp] 39 := by
                  simpa using (((HB3.out.drew.set 0 emp).set 1 emp).set 2 emp).set 3 emp
                have b5 : Blk ((((wc.drew.setCell ⟨n, 0, none⟩ emp).setCell ⟨n, 1, none⟩ emp).setCell ⟨n, 2, none⟩ emp).setCell ⟨n, 3, none⟩ emp) bi #[ptr (some n), ptr s] 44 :=
                  (((HB2.out.drew.keep (by exact Ne.symm hn2) _).keep (by exact Ne.symm hn2) _).keep (by exact Ne.symm hn2) _).keep (by exact Ne.symm hn2) _
                exact ⟨(((hk2.drew.setNew _ _ _ hn1 hl).setNew _ _ _ hn1 hl).setNew _ _ _ hn1 hl).setNew _ _ _ hn1 hl, some n, b5, fun h => by simp at h, fun _ => ⟨n, rfl, hn1, hn2, b4⟩⟩
      case rest =>
        obtain ⟨hk, r', hb, hr1, hr2⟩ := hcut
        clear HB c0 f0
        have HR : Hid ((r = none → r' = none) ∧ (r ≠ none → ∃ b, r' = some b ∧ w.heap.size ≤ b ∧ b ≠ bi ∧ Blk wc b #[emp, emp, emp, emp] 39)) := ⟨hr1, hr2⟩
        clear hr1 hr2
        have HB : Hid (Blk wc bi #[ptr r', ptr s] 44) := hb
        have c1 := hb.cell 1
        have f1 := hb.free 1
        have hl2 := hb.lt
        clear hb
        simp at c1
        cases s with
        | none =>
          simp only [ptr] at c1
          go_wp2
          go_end0
          refine ⟨rfl, hk, r', none, HB.out, HR.out.1, fun h => ?_, ?_⟩
          · obtain ⟨b, h1, h2, h3, h4⟩ := HR.out.2 h
            exact ⟨b, h1, h2, h4⟩
          · rfl
        | some bs =>
          simp only [ptr] at c1
          go_upto_region 6 with fail
          go_cut [6, 7] (fun p q wx => p = .pointer (some ⟨bi, 1, none⟩) ∧ q = .pointer (some ⟨bi, 1, none⟩) ∧ Kept bi w wx ∧ Kept bi wc wx ∧ Blk wx bi #[ptr r', ptr (some bs)] 44)
          case first =>
            go_quiet (fail)
            go_wp2
            go_meet
            case rel => exact ⟨rfl, rfl, hk.drewN _, (Kept.refl _ _).drewN _, HB.out.drewN _⟩
          case rest =>
            obtain ⟨rfl, rfl, hk1, hj1, hb1⟩ := hcut
            clear c1 f1
            have HB1 : Hid (Blk wc bi #[ptr r', ptr (some bs)] 44) := hb1
            have c1 := hb1.cell 1
            have f1 := hb1.free 1
            have hl3 := hb1.lt
            simp [ptr] at c1
            clear hb1
            go_upto_region 7 with fail
            go_cut [47] (fun _ wx => Kept bi w wx ∧ Kept bi wc wx ∧ ∃ n, w.heap.size ≤ n ∧ wc.heap.size ≤ n ∧ n ≠ bi ∧ Blk wx bi #[ptr r', ptr (some n)] 44 ∧ Blk wx n #[emp] 9)
            case first =>
              go_wp2
              go_meet
              case rel =>
                refine ⟨(hk1.set _ _).alloc _ _, ((Kept.refl _ _).set _ _).alloc _ _, wc.heap.size, hk1.size, Nat.le_refl _, by omega, ?_, ?_⟩
                · exact (by simpa [ptr] using HB1.out.set 1 (ptr (some wc.heap.size)) : Blk (wc.setCell ⟨bi, 1, none⟩ (ptr (some wc.heap.size))) bi #[ptr r', ptr (some wc.heap.size)] 44).old _
                · exact Blk.new _ _ _ _ (by simp)
            case rest =>
              obtain ⟨hk2, hj2, n, hn1, hn3, hn2, hb2, hb3⟩ := hcut
              have hj := hj1.trans hj2
              have hjs := hj1.size
              have HB2 : Hid (Blk wc bi #[ptr r', ptr (some n)] 44) := hb2
              have HB3 : Hid (Blk wc n #[emp] 9) := hb3
              clear c1 f1 HB1 HB hk hk1 hj1 hj2
              have c1 := hb2.cell 1
              have f1 := hb2.free 1
              have d0 := hb3.cell 0
              have e0 := hb3.free 0
              simp [ptr, emp] at c1 d0
              clear hb2 hb3
              go_wp2
              go_region
              all_goals go_wp2
              go_end0
              have b4 : Blk (wc.drew.setCell ⟨n, 0, none⟩ emp) n #[emp] 9 := by simpa using HB3.out.drew.set 0 emp
              have b5 : Blk (wc.drew.setCell ⟨n, 0, none⟩ emp) bi #[ptr r', ptr (some n)] 44 := HB2.out.drew.keep (by exact Ne.symm hn2) _
              refine ⟨rfl, hk2.drew.setNew _ _ _ hn1 hl, r', some n, b5, HR.out.1, fun h => ?_, fun h => by simp at h, fun _ => ⟨n, rfl, hn1, b4⟩⟩
              obtain ⟨b, h1, h2, h3, h4⟩ := HR.out.2 h
              have h5 := h4.lt
              exact ⟨b, h1, h2, (hj.keep _ _ _ h4 h3).drew.keep (by simp; omega) _⟩

end Go.Proofs.Qxb6600201aMods.Boot
