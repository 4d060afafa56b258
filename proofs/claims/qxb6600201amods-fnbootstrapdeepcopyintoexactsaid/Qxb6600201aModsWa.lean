/-
  Small laws on blocks; the copy (20): into itself, and into another.
-/
import Derived.Test.Qxb6600201aModsRows
import Derived.WalkKit
import Derived.WalkSpells
import Derived.WalkLawsBesides
import Derived.Deep.QuietTactic
import Derived.BigQuiet
import Derived.RegionTactic
import Derived.ChangeAlike
import Derived.LaidEql
namespace Go.Proofs.Qxb6600201aMods.Boot
open Go.RowKit
set_option linter.unusedVariables false

/-- Block b holds these cells; none of it is frozen. -/
def Blk (w : World) (b : Nat) (cs : Array Value) (t : TypeId) : Prop := w.heap[b]? = some (.cells cs t (0, 0))

theorem Blk.cell {w : World} {b : Nat} {cs : Array Value} {t : TypeId} (h : Blk w b cs t) (i : Nat) : w.cell? ⟨b, i, none⟩ = cs[i]? := cell_of_row w b i cs t _ h
theorem Blk.free {w : World} {b : Nat} {cs : Array Value} {t : TypeId} (h : Blk w b cs t) (i : Nat) : w.frozen? ⟨b, i, none⟩ = false := frozen_of_row w b i cs t h
theorem Blk.lt {w : World} {b : Nat} {cs : Array Value} {t : TypeId} (h : Blk w b cs t) : b < w.heap.size := (Array.getElem?_eq_some_iff.1 h).1
theorem Blk.old {w : World} {b : Nat} {cs : Array Value} {t : TypeId} (h : Blk w b cs t) (o : Obj) : Blk (w.alloc o) b cs t := (Below.heap_alloc w o b h.lt).trans h
theorem Blk.new (w : World) (cs : Array Value) (t : TypeId) (n : Nat) (hn : n = w.heap.size) : Blk (w.alloc (.cells cs t)) n cs t := by subst hn; exact heap_alloc_new w _
theorem Blk.set {w : World} {b : Nat} {cs : Array Value} {t : TypeId} (h : Blk w b cs t) (i : Nat) (v : Value) : Blk (w.setCell ⟨b, i, none⟩ v) b (cs.setIfInBounds i v) t := heap_setCell_same w b i cs t v h
theorem Blk.keep {w : World} {b : Nat} {cs : Array Value} {t : TypeId} (h : Blk w b cs t) {a : Addr} (hne : b ≠ a.block) (v : Value) : Blk (w.setCell a v) b cs t := (heap_setCell_other w a b v hne).trans h
theorem Blk.drewN {w : World} {b : Nat} {cs : Array Value} {t : TypeId} (h : Blk w b cs t) (q : Nat) : Blk (w.drewN q) b cs t := h
theorem Blk.drew {w : World} {b : Nat} {cs : Array Value} {t : TypeId} (h : Blk w b cs t) : Blk w.drew b cs t := h

theorem grown_drewN {W w : World} (h : Grown W w) (q : Nat) : Grown W (w.drewN q) := h

theorem equalIn_ptr {t e : TypeId} {j : TypeInfo} (hp : Trym.prog.underlying t = some (.pointer e)) (hj : Trym.prog.info? e = some j) (hs : j.size ≠ 0) (d : Nat) (w : World) (a b : Addr) :
    (Op.equalIn (d + 1) t (.pointer (some a)) (.pointer (some b))).run Trym.prog w = (sameAddr a b).run Trym.prog w := by
  simp [Op.equalIn, run_underlying hp, sizeOf, typeInfo, hj, hs]
theorem equal_ptr {t e : TypeId} {j : TypeInfo} (hp : Trym.prog.underlying t = some (.pointer e)) (hj : Trym.prog.info? e = some j) (hs : j.size ≠ 0) (w : World) (a b : Addr) :
    (Op.equal t (.pointer (some a)) (.pointer (some b))).run Trym.prog w = (sameAddr a b).run Trym.prog w := equalIn_ptr hp hj hs 9999 w a b
/-- Two pointers into two blocks are not equal. -/
theorem eql_other {t e : TypeId} {j : TypeInfo} (hp : Trym.prog.underlying t = some (.pointer e)) (hj : Trym.prog.info? e = some j) (hs : j.size ≠ 0) {w : World} {b b' : Nat} {cs cs' : Array Value} {u u' : TypeId} (h : Blk w b cs u) (h' : Blk w b' cs' u') (hne : b ≠ b') :
    (binOp .eql t (.pointer (some ⟨b, 0, none⟩)) (.pointer (some ⟨b', 0, none⟩))).run Trym.prog w = .ok (.bool false) w := by
  have hs2 := run_sameAddr_other (P := Trym.prog) w (a := ⟨b, 0, none⟩) (b := ⟨b', 0, none⟩) (by intro h; injection h with h; exact hne h) h h'
  simp only [binOp]
  simp [equal_ptr hp hj hs, hs2]
theorem neq_same {t e : TypeId} {j : TypeInfo} (hp : Trym.prog.underlying t = some (.pointer e)) (hj : Trym.prog.info? e = some j) (hs : j.size ≠ 0) (w : World) (a : Addr) :
    (binOp .neq t (.pointer (some a)) (.pointer (some a))).run Trym.prog w = .ok (.bool false) w := by
  have hs2 := run_sameAddr_same (P := Trym.prog) w a
  simp only [binOp]
  simp [equal_ptr hp hj hs, hs2]

theorem info39 : (Trym.prog.info? 39).map (fun i => i.size) = some 4 := by kernel_rfl
theorem info9 : (Trym.prog.info? 9).map (fun i => i.size) = some 1 := by kernel_rfl
theorem size39 : ∃ j, Trym.prog.info? 39 = some j ∧ j.size ≠ 0 := by
  obtain ⟨j, hj, h⟩ := Option.map_eq_some_iff.1 info39
  exact ⟨j, hj, by omega⟩
theorem size9 : ∃ j, Trym.prog.info? 9 = some j ∧ j.size ≠ 0 := by
  obtain ⟨j, hj, h⟩ := Option.map_eq_some_iff.1 info9
  exact ⟨j, hj, by omega⟩

/-- Pointers to references (41) and to strings (42): of two blocks; the same. -/
theorem ref_other {w : World} {b b' : Nat} {cs cs' : Array Value} {u u' : TypeId} (h : Blk w b cs u) (h' : Blk w b' cs' u') (hne : b ≠ b') :
    (binOp .eql 41 (.pointer (some ⟨b, 0, none⟩)) (.pointer (some ⟨b', 0, none⟩))).run Trym.prog w = .ok (.bool false) w := by
  obtain ⟨j, hj, hs⟩ := size39
  exact eql_other Trym.underlying41 hj hs h h' hne
theorem str_other {w : World} {b b' : Nat} {cs cs' : Array Value} {u u' : TypeId} (h : Blk w b cs u) (h' : Blk w b' cs' u') (hne : b ≠ b') :
    (binOp .eql 42 (.pointer (some ⟨b, 0, none⟩)) (.pointer (some ⟨b', 0, none⟩))).run Trym.prog w = .ok (.bool false) w := by
  obtain ⟨j, hj, hs⟩ := size9
  exact eql_other Trym.underlying42 hj hs h h' hne
theorem ref_same (w : World) (a : Addr) : (binOp .neq 41 (.pointer (some a)) (.pointer (some a))).run Trym.prog w = .ok (.bool false) w := by
  obtain ⟨j, hj, hs⟩ := size39
  exact neq_same Trym.underlying41 hj hs w a
theorem str_same (w : World) (a : Addr) : (binOp .neq 42 (.pointer (some a)) (.pointer (some a))).run Trym.prog w = .ok (.bool false) w := by
  obtain ⟨j, hj, hs⟩ := size9
  exact neq_same Trym.underlying42 hj hs w a

/-- A reference equals itself, field by field. -/
theorem agg_same (a b c d : ByteArray) (w : World) : (binOp .neq 39 (.agg #[.string a, .string b, .string c, .string d]) (.agg #[.string a, .string b, .string c, .string d])).run Trym.prog w = .ok (.bool false) w := by
  go_simp

/-! ### What the copy leaves alone -/
structure Kept (bo : Nat) (w wx : World) : Prop where
  keep : ∀ k cs t, Blk w k cs t → k ≠ bo → Blk wx k cs t
  size : w.heap.size ≤ wx.heap.size
  grown : ∀ W, Grown W w → W.heap.size ≤ bo → Grown W wx

theorem Kept.refl (bo : Nat) (w : World) : Kept bo w w := ⟨fun _ _ _ h _ => h, Nat.le_refl _, fun _ h _ => h⟩
theorem Kept.trans {bo : Nat} {a b c : World} (h : Kept bo a b) (k : Kept bo b c) : Kept bo a c :=
  ⟨fun i cs t hb hn => k.keep i cs t (h.keep i cs t hb hn) hn, Nat.le_trans h.size k.size, fun W hg hw => k.grown W (h.grown W hg hw) hw⟩
theorem Kept.set {bo : Nat} {w wx : World} (h : Kept bo w wx) (i : Nat) (v : Value) : Kept bo w (wx.setCell ⟨bo, i, none⟩ v) :=
  h.trans ⟨fun k cs t hb hn => hb.keep (by simpa using hn) v, by simp, fun W hg hw => hg.setCell (by exact hw) v⟩
theorem Kept.setNew {bo : Nat} {w wx : World} (h : Kept bo w wx) (b i : Nat) (v : Value) (hb : w.heap.size ≤ b) (hbo : bo < w.heap.size) : Kept bo w (wx.setCell ⟨b, i, none⟩ v) :=
  ⟨fun k cs t hk hn => (h.keep k cs t hk hn).keep (by have := hk.lt; simp; omega) v, by have := h.size; simpa using this, fun W hg hw => (h.grown W hg hw).setCell (by have := hg.2.2; exact Nat.le_trans this hb) v⟩
theorem Kept.alloc {bo : Nat} {w wx : World} (h : Kept bo w wx) (cs : Array Value) (t : TypeId) : Kept bo w (wx.alloc (.cells cs t)) :=
  h.trans ⟨fun k cs t hb hn => hb.old _, by simp, fun W hg hw => hg.alloc cs t⟩
theorem Kept.drewN {bo : Nat} {w wx : World} (h : Kept bo w wx) (q : Nat) : Kept bo w (wx.drewN q) := ⟨h.keep, h.size, h.grown⟩
theorem Kept.drew {bo : Nat} {w wx : World} (h : Kept bo w wx) : Kept bo w wx.drew := ⟨h.keep, h.size, h.grown⟩

end Go.Proofs.Qxb6600201aMods.Boot
