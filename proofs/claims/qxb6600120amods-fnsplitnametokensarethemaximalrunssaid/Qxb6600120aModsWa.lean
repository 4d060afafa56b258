/-
  The walks of the small functions: the bound on the length (11), the copy (12), 'is it a digit' (15, 48), a token's text (14).
-/
import Derived.Test.Qxb6600120aModsRows
import Derived.Test.Qxb6600120aModsPlain
import Derived.WalkKit
import Derived.WalkSpells
import Derived.WalkLawsBesides
import Derived.Deep.QuietTactic
import Derived.BigQuiet
namespace Go.Proofs.Qxb6600120aMods.Spl
open Go.RowKit
set_option linter.unusedVariables false

/-- A slice of n bytes 'zs': its cells lie in a block of the world. -/
def Rd (w : World) (a : Option Addr) (n : Nat) (zs : List Int) : Prop :=
  zs.length = n ∧ (0 < n → ∃ b off, a = some ⟨b, off, none⟩ ∧ b < w.heap.size ∧ ∀ t, t < n → w.cell? ⟨b, off + t, none⟩ = some (.int .u8 (zs.getD t 0)))

set_option maxHeartbeats 400000 in
theorem small_any (a0 : Option Addr) (n0 c0 : Nat) (w : World) (h0 : n0 ≤ maxLen) :
    Calls Trym.prog 11 #[.slice a0 n0 c0] w fun e w' => e = .returned (.bool (decide (n0 ≤ 1048576))) ∧ w' = w := by
  unfold maxLen at h0
  by_cases g0 : n0 ≤ 1048576
  · rw [decide_eq_true g0]
    go_enter Trym.func11, Trym.ntmps11
    go_wp2
    go_ret
    exact ⟨rfl, rfl⟩
  · rw [decide_eq_false g0]
    go_enter Trym.func11, Trym.ntmps11
    go_wp2
    go_ret
    exact ⟨rfl, rfl⟩

set_option maxHeartbeats 400000 in
theorem dig_any (y : Int) (w : World) : Calls Trym.prog 15 #[.int .u8 y] w fun e w' => e = .returned (.bool (isd y)) ∧ w' = w := by
  by_cases h1 : 48 ≤ y
  · by_cases h2 : y ≤ 57
    · have e : isd y = true := by unfold isd; exact decide_eq_true ⟨h1, h2⟩
      rw [e]
      go_enter Trym.func15, Trym.ntmps15
      go_wp2
      go_ret
      exact ⟨rfl, rfl⟩
    · have e : isd y = false := by unfold isd; exact decide_eq_false (fun h => h2 h.2)
      rw [e]
      go_enter Trym.func15, Trym.ntmps15
      go_wp2
      go_ret
      exact ⟨rfl, rfl⟩
  · have e : isd y = false := by unfold isd; exact decide_eq_false (fun h => h1 h.1)
    rw [e]
    go_enter Trym.func15, Trym.ntmps15
    go_wp2
    go_ret
    exact ⟨rfl, rfl⟩

set_option maxHeartbeats 400000 in
theorem digit_any (y : Int) (w : World) : Calls Trym.prog 48 #[.int .u8 y] w fun e w' => e = .returned (.bool (isd y)) ∧ w' = w := by
  by_cases h1 : 48 ≤ y
  · by_cases h2 : y ≤ 57
    · have e : isd y = true := by unfold isd; exact decide_eq_true ⟨h1, h2⟩
      rw [e]
      go_enter Trym.func48, Trym.ntmps48
      go_wp2
      go_ret
      exact ⟨rfl, rfl⟩
    · have e : isd y = false := by unfold isd; exact decide_eq_false (fun h => h2 h.2)
      rw [e]
      go_enter Trym.func48, Trym.ntmps48
      go_wp2
      go_ret
      exact ⟨rfl, rfl⟩
  · have e : isd y = false := by unfold isd; exact decide_eq_false (fun h => h1 h.1)
    rw [e]
    go_enter Trym.func48, Trym.ntmps48
    go_wp2
    go_ret
    exact ⟨rfl, rfl⟩

set_option maxHeartbeats 400000 in
theorem text_any (a : Option Addr) (n c : Nat) (x : Int) (w : World) :
    Calls Trym.prog 14 #[.agg #[.slice a n c, .int .i64 x]] w fun e w' => e = .returned (.slice a n c) ∧ Below w.heap.size w w' := by
  go_enter Trym.func14, Trym.ntmps14
  go_wp2
  go_ret
  exact ⟨rfl, (Below.refl _ _).alloc (Nat.le_refl _) _⟩

theorem info5 : (Trym.prog.info? 5).map (fun i => (i.zero, i.size, i.bytes)) = some (some (.int .u8 0), 1, 1) := by kernel_rfl
theorem info29 : (Trym.prog.info? 29).map (fun i => (i.zero, i.size, i.bytes)) = some (some (.agg #[.slice none 0 0, .int .i64 0]), 2, 32) := by kernel_rfl

theorem take_snoc (l : List Int) (i : Nat) (h : i < l.length) : l.take (i + 1) = l.take i ++ [l.getD i 0] := by
  rw [List.take_succ_eq_append_getElem h]; simp [List.getD, List.getElem?_eq_getElem h]

set_option maxHeartbeats 400000 in
theorem clone_nil (w : World) :
    Calls Trym.prog 12 #[.slice none 0 0] w fun e w' => e = .returned (.slice none 0 0) ∧ w' = w := by
  have he := @Lib.run_eql_slice_nil Trym.prog
  go_enter Trym.func12, Trym.ntmps12
  go_wp2
  go_ret
  exact ⟨rfl, rfl⟩

theorem grown_trans {w w1 w2 : World} {row : Option Nat} (h : w.grownBy w1 row) (k : w1.grownBy w2 row) : w.grownBy w2 row :=
  ⟨k.os.trans h.os, k.tape.trans h.tape, k.output.trans h.output, Nat.le_trans h.size k.size, fun i hi hr => (k.block i (Nat.lt_of_lt_of_le hi h.size) hr).trans (h.block i hi hr)⟩
theorem grown_any {w w1 : World} (h : w.grownBy w1 none) (row : Option Nat) : w.grownBy w1 row :=
  ⟨h.os, h.tape, h.output, h.size, fun i hi _ => h.block i hi (by simp)⟩
theorem grown_new {w w1 w2 : World} {row : Option Nat} {g : Nat} (h : w.grownBy w1 row) (k : w1.grownBy w2 (some g)) (hg : w.heap.size ≤ g) : w.grownBy w2 row :=
  ⟨k.os.trans h.os, k.tape.trans h.tape, k.output.trans h.output, Nat.le_trans h.size k.size, fun i hi hr => (k.block i (Nat.lt_of_lt_of_le hi h.size) (by simp; omega)).trans (h.block i hi hr)⟩
theorem grown_drewN (w : World) (q : Nat) (row : Option Nat) : w.grownBy (w.drewN q) row := ⟨rfl, rfl, rfl, Nat.le_refl _, fun _ _ _ => rfl⟩

/-- What the copy holds behind k rounds. -/
def cp (zs : List Int) (n k : Nat) : List Value := (zs.take k ++ List.replicate (n - k) 0).map (Value.int .u8)
theorem cp_zero (zs : List Int) (n : Nat) : List.replicate n (Value.int .u8 0) = cp zs n 0 := by simp [cp]
theorem cp_step (zs : List Int) (n k : Nat) (hz : zs.length = n) (hk : k < n) : (cp zs n k).set k (.int .u8 (zs.getD k 0)) = cp zs n (k + 1) := by
  unfold cp
  rw [take_snoc zs k (by omega), show n - k = (n - (k + 1)) + 1 by omega, List.replicate_succ]
  rw [List.map_append, List.set_append_right _ _ (by simp; omega)]
  simp [show min k zs.length = k by omega]
theorem cp_at (zs : List Int) (n k : Nat) (hz : zs.length = n) (hk : k < n) : (cp zs n k)[k]? = some (.int .u8 0) := by
  unfold cp
  rw [List.map_append, List.getElem?_append_right (by simp; omega)]
  rw [List.getElem?_map, List.getElem?_replicate]
  simp [show min k zs.length = k by omega, show 0 < n - k by omega]
theorem cp_end (zs : List Int) (n : Nat) (hz : zs.length = n) : cp zs n n = zs.map (Value.int .u8) := by
  unfold cp
  rw [List.take_of_length_le (by omega)]
  simp

set_option maxHeartbeats 400000 in
theorem clone_some (x : Addr) (n c : Nat) (zs : List Int) (w : World) (hm : n ≤ 1048576) (h : Rd w (some x) n zs) :
    Calls Trym.prog 12 #[.slice (some x) n c] w fun e w' => e = .returned (.slice (some ⟨w.heap.size, 0, none⟩) n n) ∧
      w'.ownsRow w.heap.size 5 1 (.slice (some ⟨w.heap.size, 0, none⟩) n n) n (zs.map (Value.int .u8)) ∧ w.grownBy w' none := by
  obtain ⟨hz, h⟩ := h
  obtain ⟨i0, hi, hz0, hz1, hz2⟩ := info_parts info5
  have he := fun w a n c => Lib.run_eql_slice_nil (P := Trym.prog) w 22 5 a n c 0 0 Trym.underlying22
  go_enter Trym.func12, Trym.ntmps12
  go_wp2_with (at_make; refine wpList_make_full _ rfl _ _ 22 rfl w.heap.size 5 i0 (.int .u8 0) 1 Trym.underlying22 hi hz0 hz1 _ _ _ _ n rfl rfl rfl rfl ?b2 ?b3 (Nat.le_refl _) ?_)
  case b2 => rw [hz2]; omega
  case b3 => unfold maxLen; omega
  intro w0 hown0 hgrow0
  simp only [toList_madeCells_one] at hown0
  rw [cp_zero zs n] at hown0
  go_wp2
  go_loopw [4] (fun i wr => ∃ k : Nat, k ≤ n ∧ i = .int .i64 k ∧ wr.ownsRow w.heap.size 5 1 (.slice (some ⟨w.heap.size, 0, none⟩) n n) n (cp zs n k) ∧ w.grownBy wr none) (fun i _ => n - (intOf i).toNat)
  case atStart => exact ⟨0, by omega, rfl, hown0, hgrow0⟩
  case round =>
    obtain ⟨k, hk, rfl, hown, hgrow⟩ := hrel
    clear hown0 hgrow0
    by_cases hlt : k < n
    · obtain ⟨b, off, hx, hb, hc⟩ := h (by omega)
      obtain rfl := Option.some.inj hx
      have hcx : wr.cell? ⟨b, off + k, none⟩ = some (.int .u8 (zs.getD k 0)) := hgrow.cell (hc k hlt) (by simp)
      have hcy : wr.cell? ⟨w.heap.size, k, none⟩ = some (.int .u8 0) := by rw [hown.cellAt k (by omega), cp_at zs n k hz hlt]
      have hfy := hown.frozenAt k
      have hst := hown.stored k (.int .u8 (zs.getD k 0))
      rw [cp_step zs n k hz hlt] at hst
      obtain ⟨hs1, hs2⟩ := hst
      have hg2 := grown_new hgrow hs2 (Nat.le_refl _)
      clear hc h hgrow hown hs2 hx
      go_wp2
      go_roundw
      case rel => exact ⟨k + 1, by omega, by go_num, by simpa [List.getD, show k < zs.length by omega] using hs1, by simpa [List.getD, show k < zs.length by omega] using hg2⟩
      case measure => simp [intOf]; omega
    · obtain rfl : k = n := by omega
      rw [cp_end zs k hz] at hown
      go_wp2
      go_ret
      exact ⟨rfl, hown, hgrow⟩

/-- A slice of the call's own, as the copy leaves it: nil, or the head of a block of its own. -/
def Own (w : World) (base : Nat) (v : Value) (zs : List Int) : Prop := w.ownsRow base 5 1 v zs.length (zs.map (Value.int .u8))

/-- The copy, whatever the slice. -/
theorem clone_any (a : Option Addr) (n c : Nat) (zs : List Int) (w : World) (hm : n ≤ 1048576) (hnil : a = none → n = 0 ∧ c = 0) (h : Rd w a n zs) :
    Calls Trym.prog 12 #[.slice a n c] w fun e w' => ∃ a', e = .returned (.slice a' n n) ∧ (a' = none → n = 0) ∧ Own w' w.heap.size (.slice a' n n) zs ∧ w.grownBy w' none := by
  have hz := h.1
  cases a with
  | none =>
    obtain ⟨rfl, rfl⟩ := hnil rfl
    obtain rfl := List.eq_nil_of_length_eq_zero hz
    refine (clone_nil w).mono fun e w' ⟨he, hw⟩ => ⟨none, he, fun _ => rfl, ?_, ?_⟩
    · exact World.ownsRow_nil _ _ _ _
    · subst hw; exact World.grownBy.refl _ _
  | some x =>
    refine (clone_some x n c zs w hm h).mono fun e w' ⟨he, h1, h2⟩ => ⟨some ⟨w.heap.size, 0, none⟩, he, (fun h => by cases h), ?_, h2⟩
    unfold Own; rw [hz]; exact h1

/-- What is owned can be read. -/
theorem rd_own {w : World} {base : Nat} {a : Option Addr} {n c : Nat} {zs : List Int} (h : Own w base (.slice a n c) zs) : Rd w a n zs ∧ n ≤ c ∧ c ≤ maxLen ∧ (a = none → n = 0 ∧ c = 0) := by
  obtain ⟨h1, h2⟩ := h
  rcases h2 with ⟨hv, hn⟩ | ⟨g, cap, cur, hv, hbg, hg, hnc, hcm, hcs, htake⟩
  · simp at hv
    obtain ⟨rfl, rfl, rfl⟩ := hv
    refine ⟨⟨hn, fun h => by omega⟩, by omega, by omega, fun _ => ⟨rfl, rfl⟩⟩
  · simp at hv
    obtain ⟨rfl, hn, rfl⟩ := hv
    subst hn
    refine ⟨⟨rfl, fun _ => ⟨g, 0, rfl, ?_, fun t ht => ?_⟩⟩, hnc, hcm, (fun h => by cases h)⟩
    · exact (Array.getElem?_eq_some_iff.1 hg).1
    · have hown : w.ownsRow base 5 1 (.slice (some ⟨g, 0, none⟩) zs.length c) zs.length (zs.map (Value.int .u8)) := ⟨h1, .inr ⟨g, c, cur, rfl, hbg, hg, hnc, hcm, hcs, htake⟩⟩
      have := hown.cellAt t (by omega)
      rw [Nat.zero_add, this]
      simp [List.getD, ht]

theorem own_lt {w : World} {base : Nat} {v : Value} {zs : List Int} (h : Own w base v zs) {k : Nat} (hk : v.ownBlock = some k) : base ≤ k ∧ k < w.heap.size := World.ownsRow.lt h k hk

theorem own_kept {w w' : World} {base : Nat} {v : Value} {zs : List Int} {row : Option Nat} (h : Own w base v zs) (hg : w.grownBy w' row) (hne : v.ownBlock = none ∨ v.ownBlock ≠ row) : Own w' base v zs := World.ownsRow.kept h hg hne

theorem own_mono {w : World} {base b' : Nat} {v : Value} {zs : List Int} (h : Own w base v zs) (hb : b' ≤ base) : Own w b' v zs := by
  obtain ⟨h1, h2⟩ := h
  refine ⟨h1, ?_⟩
  rcases h2 with h2 | ⟨g, cap, cur, hv, hbg, r⟩
  · exact .inl h2
  · exact .inr ⟨g, cap, cur, hv, by omega, r⟩

end Go.Proofs.Qxb6600120aMods.Spl
