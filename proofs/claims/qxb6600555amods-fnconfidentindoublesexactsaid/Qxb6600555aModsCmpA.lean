/-
  The walk of 'cycB1CmpScaled' (15): blocks; the first half.
-/
import Derived.Test.Qxb6600555aModsDblY
import Derived.Test.Qxb6600555aModsLimZ
import Derived.Test.Qxb6600555aModsCmpM
import Derived.Deep.RegionWith
namespace Go.Proofs.Qxb6600555aMods.Cmp
open Go.RowKit
open Go.Proofs.Qxb6600555aMods.Dbl Go.Proofs.Qxb6600555aMods.Lim
set_option linter.unusedVariables false

/-- Block b holds these cells; none of it is frozen. -/
def Blk (w : World) (b : Nat) (cs : Array Value) (t : TypeId) : Prop := w.heap[b]? = some (.cells cs t (0, 0))

theorem Blk.cell {w : World} {b : Nat} {cs : Array Value} {t : TypeId} (h : Blk w b cs t) (i : Nat) : w.cell? ⟨b, i, none⟩ = cs[i]? := cell_of_row w b i cs t _ h
theorem Blk.free {w : World} {b : Nat} {cs : Array Value} {t : TypeId} (h : Blk w b cs t) (i : Nat) : w.frozen? ⟨b, i, none⟩ = false := frozen_of_row w b i cs t h
theorem Blk.lt {w : World} {b : Nat} {cs : Array Value} {t : TypeId} (h : Blk w b cs t) : b < w.heap.size := (Array.getElem?_eq_some_iff.1 h).1
theorem Blk.new (w : World) (cs : Array Value) (t : TypeId) (n : Nat) (hn : n = w.heap.size) : Blk (w.alloc (.cells cs t)) n cs t := by subst hn; exact heap_alloc_new w _
theorem Blk.set {w : World} {b : Nat} {cs : Array Value} {t : TypeId} (h : Blk w b cs t) (i : Nat) (v : Value) : Blk (w.setCell ⟨b, i, none⟩ v) b (cs.setIfInBounds i v) t := heap_setCell_same w b i cs t v h
theorem Blk.keep {w : World} {b : Nat} {cs : Array Value} {t : TypeId} (h : Blk w b cs t) {a : Addr} (hne : b ≠ a.block) (v : Value) : Blk (w.setCell a v) b cs t := (heap_setCell_other w a b v hne).trans h

theorem grown_trans {a b c : World} (h : Grown a b) (k : Grown b c) : Grown a c :=
  ⟨World.keptBut_trans h.1 k.1, fun x => (k.2.1 x).trans (h.2.1 x), Nat.le_trans h.2.2 k.2.2⟩

/-- Block L of wx, that w has not yet, holds four limbs of X. -/
structure One (w wx : World) (L X y0 y1 y2 y3 : Nat) : Prop where
  ge : w.heap.size ≤ L
  blk : Blk wx L #[.int .u64 y0, .int .u64 y1, .int .u64 y2, .int .u64 y3] 34
  lm : Lm X y0 y1 y2 y3
  bel : Below w.heap.size w wx
  gro : Grown w wx

theorem One.call {w wx w' : World} {L X y0 y1 y2 y3 : Nat} (h : One w wx L X y0 y1 y2 y3) (hB : Below wx.heap.size wx w') (hG : Grown wx w') : One w w' L X y0 y1 y2 y3 :=
  ⟨h.ge, (hB.block L h.blk.lt).trans h.blk, h.lm, h.bel.trans (hB.mono h.bel.size), grown_trans h.gro hG⟩

/-- The four stores, one after another. -/
def put (w : World) (L y0 y1 y2 y3 : Nat) : World :=
  (((w.setCell ⟨L, 0, none⟩ (.int .u64 y0)).setCell ⟨L, 1, none⟩ (.int .u64 y1)).setCell ⟨L, 2, none⟩ (.int .u64 y2)).setCell ⟨L, 3, none⟩ (.int .u64 y3)

theorem put_bel {w wx : World} {L : Nat} (hL : w.heap.size ≤ L) (h : Below w.heap.size w wx) (y0 y1 y2 y3 : Nat) : Below w.heap.size w (put wx L y0 y1 y2 y3) :=
  (((h.setCell (p := ⟨L, 0, none⟩) hL _).setCell (p := ⟨L, 1, none⟩) hL _).setCell (p := ⟨L, 2, none⟩) hL _).setCell (p := ⟨L, 3, none⟩) hL _
theorem put_gro {w wx : World} {L : Nat} (hL : w.heap.size ≤ L) (h : Grown w wx) (y0 y1 y2 y3 : Nat) : Grown w (put wx L y0 y1 y2 y3) :=
  (((h.setCell (a := ⟨L, 0, none⟩) hL _).setCell (a := ⟨L, 1, none⟩) hL _).setCell (a := ⟨L, 2, none⟩) hL _).setCell (a := ⟨L, 3, none⟩) hL _

theorem One.put {w wx : World} {L X X' y0 y1 y2 y3 x0 x1 x2 x3 : Nat} (h : One w wx L X y0 y1 y2 y3) (h' : Lm X' x0 x1 x2 x3) : One w (put wx L x0 x1 x2 x3) L X' x0 x1 x2 x3 :=
  ⟨h.ge, by simpa [Cmp.put] using (((h.blk.set 0 (.int .u64 x0)).set 1 (.int .u64 x1)).set 2 (.int .u64 x2)).set 3 (.int .u64 x3), h', put_bel h.ge h.bel _ _ _ _, put_gro h.ge h.gro _ _ _ _⟩
theorem One.keep {w wx : World} {L P X y0 y1 y2 y3 : Nat} (h : One w wx L X y0 y1 y2 y3) (hne : L ≠ P) (hP : w.heap.size ≤ P) (x0 x1 x2 x3 : Nat) : One w (Cmp.put wx P x0 x1 x2 x3) L X y0 y1 y2 y3 :=
  ⟨h.ge, (((h.blk.keep (a := ⟨P, 0, none⟩) hne _).keep (a := ⟨P, 1, none⟩) hne _).keep (a := ⟨P, 2, none⟩) hne _).keep (a := ⟨P, 3, none⟩) hne _, h.lm, put_bel hP h.bel _ _ _ _, put_gro hP h.gro _ _ _ _⟩
theorem One.alloc {w wx : World} {L X y0 y1 y2 y3 : Nat} (h : One w wx L X y0 y1 y2 y3) (c : Array Value) (t : TypeId) : One w (wx.alloc (.cells c t)) L X y0 y1 y2 y3 :=
  ⟨h.ge, (Below.heap_alloc wx _ L h.blk.lt).trans h.blk, h.lm, h.bel.alloc h.bel.size _, h.gro.alloc _ _⟩
theorem One.fresh {w wx : World} {x : Nat} (hx : x < 18446744073709551616) (hB : Below w.heap.size w wx) (hG : Grown w wx) : One w (wx.alloc (.cells #[.int .u64 x, .int .u64 0, .int .u64 0, .int .u64 0] 34)) wx.heap.size x x 0 0 0 :=
  ⟨hB.size, Blk.new _ _ _ _ rfl, ⟨hx, by decide, by decide, by decide, by omega⟩, hB.alloc hB.size _, hG.alloc _ _⟩
theorem One.drew {w wx : World} {L X y0 y1 y2 y3 : Nat} (h : One w wx L X y0 y1 y2 y3) : One w wx.drew L X y0 y1 y2 y3 := ⟨h.ge, h.blk, h.lm, h.bel.drew, h.gro.drew⟩

/-- What the walk reads of a block: its cells, none of them frozen. -/
theorem One.cells {w wx : World} {L X y0 y1 y2 y3 : Nat} (h : One w wx L X y0 y1 y2 y3) :
    (wx.cell? ⟨L, 0, none⟩ = some (.int .u64 y0) ∧ wx.cell? ⟨L, 1, none⟩ = some (.int .u64 y1) ∧ wx.cell? ⟨L, 2, none⟩ = some (.int .u64 y2) ∧ wx.cell? ⟨L, 3, none⟩ = some (.int .u64 y3)) ∧
    (wx.frozen? ⟨L, 0, none⟩ = false ∧ wx.frozen? ⟨L, 1, none⟩ = false ∧ wx.frozen? ⟨L, 2, none⟩ = false ∧ wx.frozen? ⟨L, 3, none⟩ = false) :=
  ⟨⟨h.blk.cell 0, h.blk.cell 1, h.blk.cell 2, h.blk.cell 3⟩, ⟨h.blk.free 0, h.blk.free 1, h.blk.free 2, h.blk.free 3⟩⟩


/-! ### Sizes -/
theorem lt_mul {X b i j : Nat} (h : X < p2 i) (k : b < p2 j) : X * b < p2 (i + j) := by
  rw [p2_add]
  exact Nat.mul_lt_mul'' h k
theorem lt_top {X i : Nat} (h : X < p2 i) (hi : i ≤ 256) : X < 115792089237316195423570985008687907853269984665640564039457584007913129639936 := by
  have h2 : p2 i ≤ p2 256 := p2_le.2 hi
  have h3 : p2 256 = 115792089237316195423570985008687907853269984665640564039457584007913129639936 := by decide
  rw [h3] at h2
  exact Nat.lt_of_lt_of_le h h2
theorem lt_word {b i : Nat} (h : b < p2 i) (hi : i ≤ 64) : b < 18446744073709551616 := by
  have h2 : p2 i ≤ p2 64 := p2_le.2 hi
  have h3 : p2 64 = 18446744073709551616 := by decide
  rw [h3] at h2
  exact Nat.lt_of_lt_of_le h h2

set_option maxHeartbeats 2000000 in
set_option maxRecDepth 100000 in
theorem cmp_one (m n d a b z : Nat) (w : World) (hn0 : 1 ≤ n) (hn : n < 1073741824) (hm : m ≤ n) (hd : 2 * (m : Int) - (n : Int) = (d : Int)) (hd1 : d < 1073741824) (ha : a < 2147483648)
    (hq : (FloatKind.f64.format.order z 0 == some .eq) = true ∨ ((FloatKind.f64.format.order z 0 == some .eq) = false ∧ m = n)) :
    Calls Trym.prog 15 #[.int .i64 m, .int .i64 n, .float .f64 z, .int .u64 a, .int .u64 b] w fun e w' => e = .returned (.int .i64 1) ∧ Below w.heap.size w w' ∧ Grown w w' := by
  have S : Hid (a < p2 31 ∧ d < p2 30 ∧ n < p2 30) := ⟨by unfold p2; omega, by unfold p2; omega, by unfold p2; omega⟩
  go_enter Trym.func15, Trym.ntmps15
  go_upto_region 2 with fail
  go_cut [12] (fun p wx => ∃ L x0 x1 x2 x3 : Nat, p = .pointer (some ⟨L, 0, none⟩) ∧ Hid (One w wx L a x0 x1 x2 x3))
  case first =>
    go_wp2
    go_meet
    case rel => exact ⟨_, a, 0, 0, 0, rfl, One.fresh (by omega) (Below.refl _ _) (Grown.refl _)⟩
  case rest =>
    obtain ⟨L, x0, x1, x2, x3, rfl, OL⟩ := hcut
    go_upto_region 3 with fail
    go_cut [27] (fun _ wx => ∃ r0 r1 r2 r3 : Nat, Hid (One w wx L (a * d) r0 r1 r2 r3))
    case first =>
      obtain ⟨⟨c0, c1, c2, c3⟩, ⟨f0, f1, f2, f3⟩⟩ := OL.out.cells
      go_wp2_with fail
      refine (mulsmall_any (a) x0 x1 x2 x3 d _ OL.out.lm (lt_word S.out.2.1 (by decide)) (lt_top (lt_mul S.out.1 S.out.2.1) (by decide))).mono ?_
      rintro e w' ⟨r0, r1, r2, r3, rfl, hx, hB, hG⟩
      have O' : Hid (One w w' L (a) x0 x1 x2 x3) := OL.out.call hB hG
      have hx' : Hid (Lm (a * d) r0 r1 r2 r3) := hx
      clear c0 c1 c2 c3 f0 f1 f2 f3 hB hG hx
      obtain ⟨⟨c0, c1, c2, c3⟩, ⟨f0, f1, f2, f3⟩⟩ := O'.out.cells
      go_wp2
      go_meet
      case rel => exact ⟨r0, r1, r2, r3, O'.out.put hx'.out⟩
    case rest =>
      clear OL x0 x1 x2 x3
      obtain ⟨x0, x1, x2, x3, OL⟩ := hcut
      go_upto_region 4 with fail
      go_cut [30] (fun _ wx => ∃ r0 r1 r2 r3 : Nat, Hid (One w wx L (a * d * d) r0 r1 r2 r3))
      case first =>
        obtain ⟨⟨c0, c1, c2, c3⟩, ⟨f0, f1, f2, f3⟩⟩ := OL.out.cells
        go_wp2_with fail
        refine (mulsmall_any (a * d) x0 x1 x2 x3 d _ OL.out.lm (lt_word S.out.2.1 (by decide)) (lt_top (lt_mul (lt_mul S.out.1 S.out.2.1) S.out.2.1) (by decide))).mono ?_
        rintro e w' ⟨r0, r1, r2, r3, rfl, hx, hB, hG⟩
        have O' : Hid (One w w' L (a * d) x0 x1 x2 x3) := OL.out.call hB hG
        have hx' : Hid (Lm (a * d * d) r0 r1 r2 r3) := hx
        clear c0 c1 c2 c3 f0 f1 f2 f3 hB hG hx
        obtain ⟨⟨c0, c1, c2, c3⟩, ⟨f0, f1, f2, f3⟩⟩ := O'.out.cells
        go_wp2
        go_meet
        case rel => exact ⟨r0, r1, r2, r3, O'.out.put hx'.out⟩
      case rest =>
        clear OL x0 x1 x2 x3
        obtain ⟨x0, x1, x2, x3, OL⟩ := hcut
        go_upto_region 5 with fail
        go_cut [33] (fun _ wx => ∃ r0 r1 r2 r3 : Nat, Hid (One w wx L (a * d * d * n) r0 r1 r2 r3))
        case first =>
          obtain ⟨⟨c0, c1, c2, c3⟩, ⟨f0, f1, f2, f3⟩⟩ := OL.out.cells
          go_wp2_with fail
          refine (mulsmall_any (a * d * d) x0 x1 x2 x3 n _ OL.out.lm (lt_word S.out.2.2 (by decide)) (lt_top (lt_mul (lt_mul (lt_mul S.out.1 S.out.2.1) S.out.2.1) S.out.2.2) (by decide))).mono ?_
          rintro e w' ⟨r0, r1, r2, r3, rfl, hx, hB, hG⟩
          have O' : Hid (One w w' L (a * d * d) x0 x1 x2 x3) := OL.out.call hB hG
          have hx' : Hid (Lm (a * d * d * n) r0 r1 r2 r3) := hx
          clear c0 c1 c2 c3 f0 f1 f2 f3 hB hG hx
          obtain ⟨⟨c0, c1, c2, c3⟩, ⟨f0, f1, f2, f3⟩⟩ := O'.out.cells
          go_wp2
          go_meet
          case rel => exact ⟨r0, r1, r2, r3, O'.out.put hx'.out⟩
        case rest =>
          clear OL x0 x1 x2 x3
          obtain ⟨x0, x1, x2, x3, OL⟩ := hcut
          rcases hq with hq | ⟨hq, hmn⟩
          · go_wp2
            go_ret
            exact ⟨rfl, OL.out.bel, OL.out.gro⟩
          · go_wp2
            go_ret
            exact ⟨rfl, OL.out.bel, OL.out.gro⟩

set_option maxHeartbeats 4000000 in
set_option maxRecDepth 100000 in
theorem cmp_rest (m n d k a b b4 z : Nat) (w : World) (hn0 : 1 ≤ n) (hn : n < 1073741824) (hm : m < n) (hm0 : 0 < m) (hd : 2 * (m : Int) - (n : Int) = (d : Int)) (hd0 : 0 < d) (hd1 : d < 1073741824) (hk : (n : Int) - (m : Int) = (k : Int)) (hk0 : 0 < k) (hk1 : k < 1073741824)
    (ha0 : 0 < a) (ha : a < 2147483648) (hb0 : 0 < b) (hb : b < 2147483648) (hb4 : 4 * (b : Int) = (b4 : Int)) (hb40 : b4 < 8589934592) (h0 : (FloatKind.f64.format.order z 0 == some .eq) = false) (hz : Norm z) (hz1 : V cLo ≤ V z) (hz2 : V z ≤ V cHi) :
    Calls Trym.prog 15 #[.int .i64 m, .int .i64 n, .float .f64 z, .int .u64 a, .int .u64 b] w fun e w' => e = .returned (.int .i64 (sgn (a * LX m n) (b * RY m n (V z)))) ∧ Below w.heap.size w w' ∧ Grown w w' := by
  have S : Hid (a < p2 31 ∧ d < p2 30 ∧ n < p2 30) := ⟨by unfold p2; omega, by unfold p2; omega, by unfold p2; omega⟩
  have S2 : Hid (b4 < p2 33 ∧ m < p2 30 ∧ k < p2 30) := ⟨by unfold p2; omega, by unfold p2; omega, by unfold p2; omega⟩
  have HZ : Hid (Norm z ∧ V cLo ≤ V z ∧ V z ≤ V cHi) := ⟨hz, hz1, hz2⟩
  have NA : Hid (a * d * d * n ≠ 0) := Nat.ne_of_gt (Nat.mul_pos (Nat.mul_pos (Nat.mul_pos ha0 hd0) hd0) hn0)
  have ED : Hid (2 * m - n = d) := by show 2 * m - n = d; omega
  have EK : Hid (n - m = k) := by show n - m = k; omega
  have EB : Hid (4 * b = b4) := by show 4 * b = b4; omega
  clear hz hz1 hz2
  go_enter Trym.func15, Trym.ntmps15
  go_upto_region 2 with fail
  go_cut [12] (fun p wx => ∃ L x0 x1 x2 x3 : Nat, p = .pointer (some ⟨L, 0, none⟩) ∧ Hid (One w wx L a x0 x1 x2 x3))
  case first =>
    go_wp2
    go_meet
    case rel => exact ⟨_, a, 0, 0, 0, rfl, One.fresh (by omega) (Below.refl _ _) (Grown.refl _)⟩
  case rest =>
    obtain ⟨L, x0, x1, x2, x3, rfl, OL⟩ := hcut
    go_upto_region 3 with fail
    go_cut [27] (fun _ wx => ∃ r0 r1 r2 r3 : Nat, Hid (One w wx L (a * d) r0 r1 r2 r3))
    case first =>
      obtain ⟨⟨c0, c1, c2, c3⟩, ⟨f0, f1, f2, f3⟩⟩ := OL.out.cells
      go_wp2_with fail
      refine (mulsmall_any (a) x0 x1 x2 x3 d _ OL.out.lm (lt_word S.out.2.1 (by decide)) (lt_top (lt_mul S.out.1 S.out.2.1) (by decide))).mono ?_
      rintro e w' ⟨r0, r1, r2, r3, rfl, hx, hB, hG⟩
      have O' : Hid (One w w' L (a) x0 x1 x2 x3) := OL.out.call hB hG
      have hx' : Hid (Lm (a * d) r0 r1 r2 r3) := hx
      clear c0 c1 c2 c3 f0 f1 f2 f3 hB hG hx
      obtain ⟨⟨c0, c1, c2, c3⟩, ⟨f0, f1, f2, f3⟩⟩ := O'.out.cells
      go_wp2
      go_meet
      case rel => exact ⟨r0, r1, r2, r3, O'.out.put hx'.out⟩
    case rest =>
      clear OL x0 x1 x2 x3
      obtain ⟨x0, x1, x2, x3, OL⟩ := hcut
      go_upto_region 4 with fail
      go_cut [30] (fun _ wx => ∃ r0 r1 r2 r3 : Nat, Hid (One w wx L (a * d * d) r0 r1 r2 r3))
      case first =>
        obtain ⟨⟨c0, c1, c2, c3⟩, ⟨f0, f1, f2, f3⟩⟩ := OL.out.cells
        go_wp2_with fail
        refine (mulsmall_any (a * d) x0 x1 x2 x3 d _ OL.out.lm (lt_word S.out.2.1 (by decide)) (lt_top (lt_mul (lt_mul S.out.1 S.out.2.1) S.out.2.1) (by decide))).mono ?_
        rintro e w' ⟨r0, r1, r2, r3, rfl, hx, hB, hG⟩
        have O' : Hid (One w w' L (a * d) x0 x1 x2 x3) := OL.out.call hB hG
        have hx' : Hid (Lm (a * d * d) r0 r1 r2 r3) := hx
        clear c0 c1 c2 c3 f0 f1 f2 f3 hB hG hx
        obtain ⟨⟨c0, c1, c2, c3⟩, ⟨f0, f1, f2, f3⟩⟩ := O'.out.cells
        go_wp2
        go_meet
        case rel => exact ⟨r0, r1, r2, r3, O'.out.put hx'.out⟩
      case rest =>
        clear OL x0 x1 x2 x3
        obtain ⟨x0, x1, x2, x3, OL⟩ := hcut
        go_upto_region 5 with fail
        go_cut [33] (fun _ wx => ∃ r0 r1 r2 r3 : Nat, Hid (One w wx L (a * d * d * n) r0 r1 r2 r3))
        case first =>
          obtain ⟨⟨c0, c1, c2, c3⟩, ⟨f0, f1, f2, f3⟩⟩ := OL.out.cells
          go_wp2_with fail
          refine (mulsmall_any (a * d * d) x0 x1 x2 x3 n _ OL.out.lm (lt_word S.out.2.2 (by decide)) (lt_top (lt_mul (lt_mul (lt_mul S.out.1 S.out.2.1) S.out.2.1) S.out.2.2) (by decide))).mono ?_
          rintro e w' ⟨r0, r1, r2, r3, rfl, hx, hB, hG⟩
          have O' : Hid (One w w' L (a * d * d) x0 x1 x2 x3) := OL.out.call hB hG
          have hx' : Hid (Lm (a * d * d * n) r0 r1 r2 r3) := hx
          clear c0 c1 c2 c3 f0 f1 f2 f3 hB hG hx
          obtain ⟨⟨c0, c1, c2, c3⟩, ⟨f0, f1, f2, f3⟩⟩ := O'.out.cells
          go_wp2
          go_meet
          case rel => exact ⟨r0, r1, r2, r3, O'.out.put hx'.out⟩
        case rest =>
          clear OL x0 x1 x2 x3
          obtain ⟨x0, x1, x2, x3, OL⟩ := hcut
          go_upto_region 8 with fail
          go_cut [13, 14] (fun vm ve wx => wc = wx ∧ ∃ mt t u : Nat, ∃ ee : Int, vm = .int .u64 mt ∧ ve = .int .i64 ee ∧ Hid (ee = (u : Int) - (t : Int)) ∧ Hid (mt < p2 53 ∧ 0 < mt ∧ mt * p2 1074 * p2 u = V z * p2 t ∧ t ≤ 460 ∧ u ≤ 400))
          case first =>
            go_wp2_with fail
            refine (decompose_any z _ HZ.out.1 HZ.out.2.1 HZ.out.2.2).mono ?_
            rintro e w' ⟨mt, t, u, rfl, rfl, q1, q2, q3, q4, q5⟩
            have QQ : Hid (mt < p2 53 ∧ 0 < mt ∧ mt * p2 1074 * p2 u = V z * p2 t ∧ t ≤ 460 ∧ u ≤ 400)   := ⟨q2, Nat.lt_of_lt_of_le (by decide) q1, q3, q4, q5⟩
            clear q1 q2 q3 q4 q5
            go_wp2
            go_meet
            case rel => exact ⟨rfl, mt, t, u, _, rfl, rfl, rfl, QQ⟩
          case rest =>
            obtain ⟨rfl, mt, t, u, ee, rfl, rfl, hee, QQ⟩ := hcut
            go_upto_region 9 with fail
            go_cut [15] (fun p wx => ∃ P y0 y1 y2 y3 : Nat, p = .pointer (some ⟨P, 0, none⟩) ∧ Hid (L ≠ P) ∧ Hid (One w wx P b4 y0 y1 y2 y3) ∧ Hid (One w wx L (a * d * d * n) x0 x1 x2 x3))
            case first =>
              go_wp2
              go_meet
              case rel => exact ⟨wc.heap.size, b4, 0, 0, 0, rfl, Nat.ne_of_lt OL.out.blk.lt, One.fresh (lt_word S2.out.1 (by decide)) OL.out.bel OL.out.gro, OL.out.alloc _ _⟩
            case rest =>
              clear OL
              obtain ⟨P, y0, y1, y2, y3, rfl, hLP, OP, OL⟩ := hcut
              go_upto_region 10 with fail
              go_cut [52] (fun _ wx => ∃ r0 r1 r2 r3 : Nat, Hid (One w wx P (b4 * m) r0 r1 r2 r3) ∧ Hid (One w wx L (a * d * d * n) x0 x1 x2 x3))
              case first =>
                obtain ⟨⟨c0, c1, c2, c3⟩, ⟨f0, f1, f2, f3⟩⟩ := OP.out.cells
                go_wp2_with fail
                refine (mulsmall_any (b4) y0 y1 y2 y3 m _ OP.out.lm (lt_word S2.out.2.1 (by decide)) (lt_top (lt_mul S2.out.1 S2.out.2.1) (by decide))).mono ?_
                rintro e w' ⟨r0, r1, r2, r3, rfl, hx, hB, hG⟩
                have O' : Hid (One w w' P (b4) y0 y1 y2 y3) := OP.out.call hB hG
                have hx' : Hid (Lm (b4 * m) r0 r1 r2 r3) := hx
                have OL' : Hid (One w w' L (a * d * d * n) x0 x1 x2 x3) := OL.out.call hB hG
                clear c0 c1 c2 c3 f0 f1 f2 f3 hB hG hx
                obtain ⟨⟨c0, c1, c2, c3⟩, ⟨f0, f1, f2, f3⟩⟩ := O'.out.cells
                go_wp2
                go_meet
                case rel => exact ⟨r0, r1, r2, r3, O'.out.put hx'.out, OL'.out.keep hLP.out OP.out.ge _ _ _ _⟩
              case rest =>
                clear OP OL y0 y1 y2 y3
                obtain ⟨y0, y1, y2, y3, OP, OL⟩ := hcut
                go_upto_region 11 with fail
                go_cut [56] (fun _ wx => ∃ r0 r1 r2 r3 : Nat, Hid (One w wx P (b4 * m * k) r0 r1 r2 r3) ∧ Hid (One w wx L (a * d * d * n) x0 x1 x2 x3))
                case first =>
                  obtain ⟨⟨c0, c1, c2, c3⟩, ⟨f0, f1, f2, f3⟩⟩ := OP.out.cells
                  go_wp2_with fail
                  refine (mulsmall_any (b4 * m) y0 y1 y2 y3 k _ OP.out.lm (lt_word S2.out.2.2 (by decide)) (lt_top (lt_mul (lt_mul S2.out.1 S2.out.2.1) S2.out.2.2) (by decide))).mono ?_
                  rintro e w' ⟨r0, r1, r2, r3, rfl, hx, hB, hG⟩
                  have O' : Hid (One w w' P (b4 * m) y0 y1 y2 y3) := OP.out.call hB hG
                  have hx' : Hid (Lm (b4 * m * k) r0 r1 r2 r3) := hx
                  have OL' : Hid (One w w' L (a * d * d * n) x0 x1 x2 x3) := OL.out.call hB hG
                  clear c0 c1 c2 c3 f0 f1 f2 f3 hB hG hx
                  obtain ⟨⟨c0, c1, c2, c3⟩, ⟨f0, f1, f2, f3⟩⟩ := O'.out.cells
                  go_wp2
                  go_meet
                  case rel => exact ⟨r0, r1, r2, r3, O'.out.put hx'.out, OL'.out.keep hLP.out OP.out.ge _ _ _ _⟩
                case rest =>
                  clear OP OL y0 y1 y2 y3
                  obtain ⟨y0, y1, y2, y3, OP, OL⟩ := hcut
                  go_upto_region 12 with fail
                  go_cut [62] (fun _ wx => ∃ r0 r1 r2 r3 : Nat, Hid (One w wx P (b4 * m * k * mt) r0 r1 r2 r3) ∧ Hid (One w wx L (a * d * d * n) x0 x1 x2 x3))
                  case first =>
                    obtain ⟨⟨c0, c1, c2, c3⟩, ⟨f0, f1, f2, f3⟩⟩ := OP.out.cells
                    go_wp2_with fail
                    refine (mulsmall_any (b4 * m * k) y0 y1 y2 y3 mt _ OP.out.lm (lt_word QQ.out.1 (by decide)) (lt_top (lt_mul (lt_mul (lt_mul S2.out.1 S2.out.2.1) S2.out.2.2) QQ.out.1) (by decide))).mono ?_
                    rintro e w' ⟨r0, r1, r2, r3, rfl, hx, hB, hG⟩
                    have O' : Hid (One w w' P (b4 * m * k) y0 y1 y2 y3) := OP.out.call hB hG
                    have hx' : Hid (Lm (b4 * m * k * mt) r0 r1 r2 r3) := hx
                    have OL' : Hid (One w w' L (a * d * d * n) x0 x1 x2 x3) := OL.out.call hB hG
                    clear c0 c1 c2 c3 f0 f1 f2 f3 hB hG hx
                    obtain ⟨⟨c0, c1, c2, c3⟩, ⟨f0, f1, f2, f3⟩⟩ := O'.out.cells
                    go_wp2
                    go_meet
                    case rel => exact ⟨r0, r1, r2, r3, O'.out.put hx'.out, OL'.out.keep hLP.out OP.out.ge _ _ _ _⟩
                  case rest =>
                    clear OP OL y0 y1 y2 y3
                    obtain ⟨y0, y1, y2, y3, OP, OL⟩ := hcut
                    go_upto_region 13 with fail
                    go_cut [65] (fun _ wx => ∃ r0 r1 r2 r3 : Nat, Hid (One w wx P (b4 * m * k * mt * mt) r0 r1 r2 r3) ∧ Hid (One w wx L (a * d * d * n) x0 x1 x2 x3))
                    case first =>
                      obtain ⟨⟨c0, c1, c2, c3⟩, ⟨f0, f1, f2, f3⟩⟩ := OP.out.cells
                      go_wp2_with fail
                      refine (mulsmall_any (b4 * m * k * mt) y0 y1 y2 y3 mt _ OP.out.lm (lt_word QQ.out.1 (by decide)) (lt_top (lt_mul (lt_mul (lt_mul (lt_mul S2.out.1 S2.out.2.1) S2.out.2.2) QQ.out.1) QQ.out.1) (by decide))).mono ?_
                      rintro e w' ⟨r0, r1, r2, r3, rfl, hx, hB, hG⟩
                      have O' : Hid (One w w' P (b4 * m * k * mt) y0 y1 y2 y3) := OP.out.call hB hG
                      have hx' : Hid (Lm (b4 * m * k * mt * mt) r0 r1 r2 r3) := hx
                      have OL' : Hid (One w w' L (a * d * d * n) x0 x1 x2 x3) := OL.out.call hB hG
                      clear c0 c1 c2 c3 f0 f1 f2 f3 hB hG hx
                      obtain ⟨⟨c0, c1, c2, c3⟩, ⟨f0, f1, f2, f3⟩⟩ := O'.out.cells
                      go_wp2
                      go_meet
                      case rel => exact ⟨r0, r1, r2, r3, O'.out.put hx'.out, OL'.out.keep hLP.out OP.out.ge _ _ _ _⟩
                    case rest =>
                      clear OP OL y0 y1 y2 y3
                      obtain ⟨y0, y1, y2, y3, OP, OL⟩ := hcut
                      have SA : Hid (a * d * d * n < p2 121) := lt_mul (lt_mul (lt_mul S.out.1 S.out.2.1) S.out.2.1) S.out.2.2
                      have SB : Hid (b4 * m * k * mt * mt < p2 199) := lt_mul (lt_mul (lt_mul (lt_mul S2.out.1 S2.out.2.1) S2.out.2.2) QQ.out.1) QQ.out.1
                      have NB : Hid (b4 * m * k * mt * mt ≠ 0) := Nat.ne_of_gt (Nat.mul_pos (Nat.mul_pos (Nat.mul_pos (Nat.mul_pos (by have := EB.out; omega) hm0) hk0) QQ.out.2.1) QQ.out.2.1)
                      have RP : Hid (∀ E T : Nat, u = t + E → T = 2 * E → sgn (a * LX m n) (b * RY m n (V z)) = sgn (a * d * d * n) (b4 * m * k * mt * mt * 2 ^ T)) := fun E T e1 e2 => scale_pos ED.out EK.out EB.out QQ.out.2.2.1 e1 e2
                      have RN : Hid (∀ E T : Nat, t = u + E → T = 2 * E → sgn (a * LX m n) (b * RY m n (V z)) = sgn (a * d * d * n * 2 ^ T) (b4 * m * k * mt * mt)) := fun E T e1 e2 => scale_neg ED.out EK.out EB.out QQ.out.2.2.1 e1 e2
                      have ht : t ≤ 460 := QQ.out.2.2.2.1
                      have hu : u ≤ 400 := QQ.out.2.2.2.2
                      generalize a * d * d * n = A at OL SA NA RP RN
                      generalize b4 * m * k * mt * mt = B at OP SB NB RP RN
                      go_upto_region 14 with fail
                      go_cut [16] (fun v wx => v = .int .i64 (bl A : Nat) ∧ Hid (One w wx P B y0 y1 y2 y3) ∧ Hid (One w wx L A x0 x1 x2 x3))
                      case first =>
                        obtain ⟨⟨c0, c1, c2, c3⟩, ⟨f0, f1, f2, f3⟩⟩ := OL.out.cells
                        go_wp2_with fail
                        refine (bitlen_any A x0 x1 x2 x3 _ OL.out.lm).mono ?_
                        rintro e w' ⟨rfl, hB, hG⟩
                        have OP' : Hid (One w w' P B y0 y1 y2 y3) := OP.out.call hB hG
                        have OL' : Hid (One w w' L A x0 x1 x2 x3) := OL.out.call hB hG
                        clear hB hG
                        go_wp2
                        go_meet
                        case rel => exact ⟨rfl, OP', OL'⟩
                      case rest =>
                        clear OP OL
                        obtain ⟨rfl, OP, OL⟩ := hcut
                        go_upto_region 15 with fail
                        go_cut [17] (fun v wx => v = .int .i64 (bl B : Nat) ∧ Hid (One w wx P B y0 y1 y2 y3) ∧ Hid (One w wx L A x0 x1 x2 x3))
                        case first =>
                          obtain ⟨⟨c0, c1, c2, c3⟩, ⟨f0, f1, f2, f3⟩⟩ := OP.out.cells
                          go_wp2_with fail
                          refine (bitlen_any B y0 y1 y2 y3 _ OP.out.lm).mono ?_
                          rintro e w' ⟨rfl, hB, hG⟩
                          have OP' : Hid (One w w' P B y0 y1 y2 y3) := OP.out.call hB hG
                          have OL' : Hid (One w w' L A x0 x1 x2 x3) := OL.out.call hB hG
                          clear hB hG
                          go_wp2
                          go_meet
                          case rel => exact ⟨rfl, OP', OL'⟩
                        case rest =>
                          clear OP OL
                          obtain ⟨rfl, OP, OL⟩ := hcut
                          have la : bl A ≤ 121 := bl_le_of A 121 SA.out
                          have lb : bl B ≤ 199 := bl_le_of B 199 SB.out
                          obtain ⟨ba, eba⟩ : ∃ ba, Hid (bl A = ba) := ⟨_, rfl⟩
                          obtain ⟨bb, ebb⟩ : ∃ bb, Hid (bl B = bb) := ⟨_, rfl⟩
                          rw [eba.out] at la ⊢
                          rw [ebb.out] at lb ⊢
                          rcases Nat.lt_or_ge u t with htu | htu
                          · obtain ⟨E, hE⟩ : ∃ E, t = u + E := ⟨t - u, by omega⟩
                            obtain ⟨T, hT⟩ : ∃ T, T = 2 * E := ⟨_, rfl⟩
                            have hee' : ee = -(E : Int) := by have := hee.out; omega
                            subst hee'
                            have hTi : 2 * (E : Int) = (T : Int) := by omega
                            have hTj : -2 * -(E : Int) = (T : Int) := by omega
                            have hTb : T ≤ 920 := by omega
                            have hEb : E ≤ 460 := by omega
                            have hEc : 0 < E := by omega
                            have R : Hid (sgn (a * LX m n) (b * RY m n (V z)) = sgn (A * 2 ^ T) B) := RN.out E T hE hT
                            clear hee hE hT htu RP RN ht hu
                            by_cases h1 : bb < ba + T
                            · have r : Hid (sgn (a * LX m n) (b * RY m n (V z)) = 1) := R.out.trans (sgn_gt (bl_less NB.out NA.out (by rw [eba.out, ebb.out]; exact h1)))
                              go_wp2
                              go_ret
                              exact ⟨by rw [r.out]; rfl, OL.out.bel, OL.out.gro⟩
                            · by_cases h2 : ba + T < bb
                              · have r : Hid (sgn (a * LX m n) (b * RY m n (V z)) = -1) := R.out.trans (sgn_lt (bl_more NB.out NA.out (by rw [eba.out, ebb.out]; exact h2)))
                                go_wp2
                                go_ret
                                exact ⟨by rw [r.out]; rfl, OL.out.bel, OL.out.gro⟩
                              · have h3 : ba + T = bb := by omega
                                have XT : Hid (T < 256 ∧ A * 2 ^ T < 115792089237316195423570985008687907853269984665640564039457584007913129639936) := ⟨by omega, lt_top (bl_fits NA.out (i := 199) (by rw [eba.out]; omega)) (by decide)⟩
                                go_upto_region 28 with fail
                                go_cut [10] (fun v wx => v = .int .i64 (sgn (A * 2 ^ T) B) ∧ Hid (Below w.heap.size w wx ∧ Grown w wx))
                                case first =>
                                  obtain ⟨⟨c0, c1, c2, c3⟩, ⟨f0, f1, f2, f3⟩⟩ := OL.out.drew.cells
                                  obtain ⟨⟨d0, d1, d2, d3⟩, ⟨g0, g1, g2, g3⟩⟩ := OP.out.drew.cells
                                  go_region_with (first
                                    | (go_at_call 22; refine (shl_any A x0 x1 x2 x3 T _ ?_ ?_ ?_).mono ?_; exact OL.out.lm; exact XT.out.1; exact XT.out.2; rintro e w' ⟨q0, q1, q2, q3, rfl, hq, hB, hG⟩; have HQ : Hid (Lm (A * 2 ^ T) q0 q1 q2 q3) := hq; have OL1 : Hid (One w w' L A x0 x1 x2 x3) := OL.out.drew.call hB hG; have OP1 : Hid (One w w' P B y0 y1 y2 y3) := OP.out.drew.call hB hG; clear hq hB hG; obtain ⟨⟨c0', c1', c2', c3'⟩, ⟨f0', f1', f2', f3'⟩⟩ := OL1.out.cells; obtain ⟨⟨d0', d1', d2', d3'⟩, ⟨g0', g1', g2', g3'⟩⟩ := OP1.out.cells)
                                    | (go_at_call 21; refine (cmp_any (A * 2 ^ T) B _ _ _ _ y0 y1 y2 y3 _ ?_ ?_).mono ?_; exact HQ.out; exact OP.out.lm; rintro e w'' ⟨rfl, hB, hG⟩; have OL2 : Hid (One w w'' L A x0 x1 x2 x3) := OL1.out.call hB hG; clear hB hG))
                                  all_goals (try go_wp2)
                                  all_goals (go_meet; exact ⟨rfl, OL2.out.bel, OL2.out.gro⟩)
                                case rest =>
                                  obtain ⟨rfl, hbg⟩ := hcut
                                  go_wp2
                                  go_ret
                                  exact ⟨by rw [R.out]; rfl, hbg.out.1, hbg.out.2⟩
                          · obtain ⟨E, hE⟩ : ∃ E, u = t + E := ⟨u - t, by omega⟩
                            obtain ⟨T, hT⟩ : ∃ T, T = 2 * E := ⟨_, rfl⟩
                            have hee' : ee = (E : Int) := by have := hee.out; omega
                            subst hee'
                            have hTi : 2 * (E : Int) = (T : Int) := by omega
                            have hTb : T ≤ 800 := by omega
                            have hEb : E ≤ 400 := by omega
                            have R : Hid (sgn (a * LX m n) (b * RY m n (V z)) = sgn A (B * 2 ^ T)) := RP.out E T hE hT
                            clear hee hE hT htu RP RN ht hu
                            by_cases h1 : ba < bb + T
                            · have r : Hid (sgn (a * LX m n) (b * RY m n (V z)) = -1) := R.out.trans (sgn_lt (bl_less NA.out NB.out (by rw [eba.out, ebb.out]; exact h1)))
                              go_wp2
                              go_ret
                              exact ⟨by rw [r.out]; rfl, OL.out.bel, OL.out.gro⟩
                            · by_cases h2 : bb + T < ba
                              · have r : Hid (sgn (a * LX m n) (b * RY m n (V z)) = 1) := R.out.trans (sgn_gt (bl_more NA.out NB.out (by rw [eba.out, ebb.out]; exact h2)))
                                go_wp2
                                go_ret
                                exact ⟨by rw [r.out]; rfl, OL.out.bel, OL.out.gro⟩
                              · have h3 : bb + T = ba := by omega
                                have XT : Hid (T < 256 ∧ B * 2 ^ T < 115792089237316195423570985008687907853269984665640564039457584007913129639936) := ⟨by omega, lt_top (bl_fits NB.out (i := 121) (by rw [ebb.out]; omega)) (by decide)⟩
                                go_upto_region 22 with fail
                                go_cut [10] (fun v wx => v = .int .i64 (sgn A (B * 2 ^ T)) ∧ Hid (Below w.heap.size w wx ∧ Grown w wx))
                                case first =>
                                  obtain ⟨⟨c0, c1, c2, c3⟩, ⟨f0, f1, f2, f3⟩⟩ := OL.out.drew.cells
                                  obtain ⟨⟨d0, d1, d2, d3⟩, ⟨g0, g1, g2, g3⟩⟩ := OP.out.drew.cells
                                  go_region_with (first
                                    | (go_at_call 22; refine (shl_any B y0 y1 y2 y3 T _ ?_ ?_ ?_).mono ?_; exact OP.out.lm; exact XT.out.1; exact XT.out.2; rintro e w' ⟨q0, q1, q2, q3, rfl, hq, hB, hG⟩; have HQ : Hid (Lm (B * 2 ^ T) q0 q1 q2 q3) := hq; have OL1 : Hid (One w w' L A x0 x1 x2 x3) := OL.out.drew.call hB hG; have OP1 : Hid (One w w' P B y0 y1 y2 y3) := OP.out.drew.call hB hG; clear hq hB hG; obtain ⟨⟨c0', c1', c2', c3'⟩, ⟨f0', f1', f2', f3'⟩⟩ := OL1.out.cells; obtain ⟨⟨d0', d1', d2', d3'⟩, ⟨g0', g1', g2', g3'⟩⟩ := OP1.out.cells)
                                    | (go_at_call 21; refine (cmp_any A (B * 2 ^ T) x0 x1 x2 x3 _ _ _ _ _ ?_ ?_).mono ?_; exact OL.out.lm; exact HQ.out; rintro e w'' ⟨rfl, hB, hG⟩; have OL2 : Hid (One w w'' L A x0 x1 x2 x3) := OL1.out.call hB hG; clear hB hG))
                                  all_goals (try go_wp2)
                                  all_goals (go_meet; exact ⟨rfl, OL2.out.bel, OL2.out.gro⟩)
                                case rest =>
                                  obtain ⟨rfl, hbg⟩ := hcut
                                  go_wp2
                                  go_ret
                                  exact ⟨by rw [R.out]; rfl, hbg.out.1, hbg.out.2⟩
end Go.Proofs.Qxb6600555aMods.Cmp
