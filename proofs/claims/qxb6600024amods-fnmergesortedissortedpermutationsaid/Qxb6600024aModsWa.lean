/-
  The walks of the small functions: the bound on lengths (15), 'is it sorted' (16), the copy (17).
-/
import Derived.Test.Qxb6600024aModsRows
import Derived.Test.Qxb6600024aModsPlain
import Derived.WalkKit
import Derived.WalkSpells
import Derived.WalkLawsBesides
import Derived.Deep.QuietTactic
import Derived.BigQuiet
namespace Go.Proofs.Qxb6600024aMods.Mrg
open Go.RowKit
set_option linter.unusedVariables false

/-- A slice of n numbers 'zs': its cells lie in a block of the world. -/
def Rd (w : World) (a : Option Addr) (n : Nat) (zs : List Int) : Prop :=
  zs.length = n ∧ (0 < n → ∃ b off, a = some ⟨b, off, none⟩ ∧ b < w.heap.size ∧ ∀ t, t < n → w.cell? ⟨b, off + t, none⟩ = some (.int .u64 (zs.getD t 0)))

set_option maxHeartbeats 400000 in
theorem small_any (a0 : Option Addr) (n0 c0 : Nat) (a1 : Option Addr) (n1 c1 : Nat) (w : World) (h0 : n0 ≤ maxLen) (h1 : n1 ≤ maxLen) :
    Calls Trym.prog 15 #[.slice a0 n0 c0, .slice a1 n1 c1] w fun e w' => e = .returned (.bool (decide (n0 + n1 ≤ 1048576))) ∧ w' = w := by
  unfold maxLen at h0 h1
  by_cases g0 : n0 ≤ 1048576
  · by_cases g1 : n1 ≤ 1048576
    · by_cases g2 : n0 + n1 ≤ 1048576
      · have e : decide (n0 + n1 ≤ 1048576) = true := decide_eq_true g2
        rw [e]
        go_enter Trym.func15, Trym.ntmps15
        go_wp2
        go_ret
        exact ⟨rfl, rfl⟩
      · have e : decide (n0 + n1 ≤ 1048576) = false := decide_eq_false g2
        rw [e]
        go_enter Trym.func15, Trym.ntmps15
        go_wp2
        go_ret
        exact ⟨rfl, rfl⟩
    · have e : decide (n0 + n1 ≤ 1048576) = false := decide_eq_false (by omega)
      rw [e]
      go_enter Trym.func15, Trym.ntmps15
      go_wp2
      go_ret
      exact ⟨rfl, rfl⟩
  · have e : decide (n0 + n1 ≤ 1048576) = false := decide_eq_false (by omega)
    rw [e]
    go_enter Trym.func15, Trym.ntmps15
    go_wp2
    go_ret
    exact ⟨rfl, rfl⟩

set_option maxHeartbeats 400000 in
theorem sorted_short (a : Option Addr) (n c : Nat) (w : World) (hn : n ≤ 1) :
    Calls Trym.prog 16 #[.slice a n c] w fun e w' => e = .returned (.bool true) ∧ w' = w := by
  go_enter Trym.func16, Trym.ntmps16
  go_wp2
  refine wp_loop_rounds 1 ?_
  rw [rounds_succ]
  go_wp2
  go_ret
  exact ⟨rfl, rfl⟩

set_option maxHeartbeats 400000 in
theorem sorted_long (b off n c : Nat) (zs : List Int) (w : World) (hn : 2 ≤ n) (hm : n ≤ 4194304) (hz : zs.length = n)
    (hc : ∀ t, t < n → w.cell? ⟨b, off + t, none⟩ = some (.int .u64 (zs.getD t 0))) :
    Calls Trym.prog 16 #[.slice (some ⟨b, off, none⟩) n c] w fun e w' => e = .returned (.bool (srt zs)) ∧ ∃ q, w' = w.drewN q := by
  go_enter Trym.func16, Trym.ntmps16
  go_wp2
  go_loopw [3] (fun i wr => ∃ k q : Nat, k + 1 ≤ n ∧ i = .int .i64 (k + 1 : Nat) ∧ (∀ j, j < k → zs.getD j 0 ≤ zs.getD (j + 1) 0) ∧ wr = w.drewN q) (fun i _ => n - (intOf i).toNat)
  case atStart => exact ⟨0, 0, by omega, rfl, fun j hj => by omega, rfl⟩
  case round =>
    obtain ⟨k, q, hk, rfl, hup, rfl⟩ := hrel
    have HU : Hid (∀ j, j < k → zs.getD j 0 ≤ zs.getD (j + 1) 0) := hup
    clear hup
    by_cases hlt : k + 1 < n
    · have c0 := hc k (by omega)
      have c1 := hc (k + 1) hlt
      have b0 : ((k : Nat) : Int) < (n : Int) := by omega
      have b1 : (((k + 1 : Nat)) : Int) < (n : Int) := by omega
      go_wp2
      go_quiet (fail)
      go_wp2
      · have ht : zs[k + 1] < zs[k]?.getD 0 := by assumption
        go_ret
        refine ⟨?_, q + nq, by simp⟩
        rw [srt_no (j := k) (by omega) (by simpa [List.getD, show k + 1 < zs.length by omega] using ht)]
        rfl
      · have ht : zs[k]?.getD 0 ≤ zs[k + 1] := by assumption
        go_roundw
        case rel =>
          refine ⟨k + 1, q + nq, by omega, by go_num, ?_, by simp⟩
          intro j hj
          by_cases e : j = k
          · subst e; simpa [List.getD, show j + 1 < zs.length by omega] using ht
          · exact HU.out j (by omega)
        case measure => simp [intOf]; omega
    · go_wp2
      go_ret
      refine ⟨?_, q, rfl⟩
      rw [srt_yes (fun j hj => HU.out j (by omega))]
      rfl

/-- 'Is it sorted', whatever the slice. -/
theorem sorted_any (a : Option Addr) (n c : Nat) (zs : List Int) (w : World) (hm : n ≤ 4194304) (h : Rd w a n zs) :
    Calls Trym.prog 16 #[.slice a n c] w fun e w' => e = .returned (.bool (srt zs)) ∧ ∃ q, w' = w.drewN q := by
  obtain ⟨hz, h⟩ := h
  by_cases hn : n ≤ 1
  · rw [srt_yes (fun j hj => by omega)]
    exact (sorted_short a n c w hn).mono fun e w' ⟨he, hw⟩ => ⟨he, 0, hw⟩
  · obtain ⟨b, off, rfl, _, hc⟩ := h (by omega)
    exact sorted_long b off n c zs w (by omega) hm hz hc

theorem info37 : (Trym.prog.info? 37).map (fun i => (i.zero, i.size, i.bytes)) = some (some (.int .u64 0), 1, 8) := by kernel_rfl

set_option maxHeartbeats 400000 in
theorem clone_nil (w : World) :
    Calls Trym.prog 17 #[.slice none 0 0] w fun e w' => e = .returned (.slice none 0 0) ∧ w' = w := by
  have he := @Lib.run_eql_slice_nil Trym.prog
  go_enter Trym.func17, Trym.ntmps17
  go_wp2
  go_ret
  exact ⟨rfl, rfl⟩

theorem grown_trans {w w1 w2 : World} {row : Option Nat} (h : w.grownBy w1 row) (k : w1.grownBy w2 row) : w.grownBy w2 row :=
  ⟨k.os.trans h.os, k.tape.trans h.tape, k.output.trans h.output, Nat.le_trans h.size k.size, fun i hi hr => (k.block i (Nat.lt_of_lt_of_le hi h.size) hr).trans (h.block i hi hr)⟩
theorem grown_any {w w1 : World} (h : w.grownBy w1 none) (row : Option Nat) : w.grownBy w1 row :=
  ⟨h.os, h.tape, h.output, h.size, fun i hi _ => h.block i hi (by simp)⟩
theorem grown_new {w w1 w2 : World} {row : Option Nat} {g : Nat} (h : w.grownBy w1 row) (k : w1.grownBy w2 (some g)) (hg : w.heap.size ≤ g) : w.grownBy w2 row :=
  ⟨k.os.trans h.os, k.tape.trans h.tape, k.output.trans h.output, Nat.le_trans h.size k.size, fun i hi hr => (k.block i (Nat.lt_of_lt_of_le hi h.size) (by simp; omega)).trans (h.block i hi hr)⟩
theorem grown_drewN (w : World) (q : Nat) (row : Option Nat) : w.grownBy (w.drewN q) row := ⟨rfl, rfl, rfl, Nat.le_refl _, fun _ _ _ => rfl⟩

/-- What the copy holds behind k rounds. -/
def cp (zs : List Int) (n k : Nat) : List Value := (zs.take k ++ List.replicate (n - k) 0).map (Value.int .u64)
theorem cp_zero (zs : List Int) (n : Nat) : List.replicate n (Value.int .u64 0) = cp zs n 0 := by simp [cp]
theorem cp_step (zs : List Int) (n k : Nat) (hz : zs.length = n) (hk : k < n) : (cp zs n k).set k (.int .u64 (zs.getD k 0)) = cp zs n (k + 1) := by
  unfold cp
  rw [take_snoc zs k (by omega), show n - k = (n - (k + 1)) + 1 by omega, List.replicate_succ]
  rw [List.map_append, List.set_append_right _ _ (by simp; omega)]
  simp [show min k zs.length = k by omega]
theorem cp_at (zs : List Int) (n k : Nat) (hz : zs.length = n) (hk : k < n) : (cp zs n k)[k]? = some (.int .u64 0) := by
  unfold cp
  rw [List.map_append, List.getElem?_append_right (by simp; omega)]
  rw [List.getElem?_map, List.getElem?_replicate]
  simp [show min k zs.length = k by omega, show 0 < n - k by omega]
theorem cp_end (zs : List Int) (n : Nat) (hz : zs.length = n) : cp zs n n = zs.map (Value.int .u64) := by
  unfold cp
  rw [List.take_of_length_le (by omega)]
  simp

set_option maxHeartbeats 400000 in
theorem clone_some (x : Addr) (n c : Nat) (zs : List Int) (w : World) (hm : n ≤ 1048576) (h : Rd w (some x) n zs) :
    Calls Trym.prog 17 #[.slice (some x) n c] w fun e w' => e = .returned (.slice (some ⟨w.heap.size, 0, none⟩) n n) ∧
      w'.ownsRow w.heap.size 37 1 (.slice (some ⟨w.heap.size, 0, none⟩) n n) n (zs.map (Value.int .u64)) ∧ w.grownBy w' none := by
  obtain ⟨hz, h⟩ := h
  obtain ⟨i0, hi, hz0, hz1, hz2⟩ := info_parts info37
  have he := fun w a n c => Lib.run_eql_slice_nil (P := Trym.prog) w 31 37 a n c 0 0 Trym.underlying31
  go_enter Trym.func17, Trym.ntmps17
  go_wp2_with (at_make; refine wpList_make_full _ rfl _ _ 31 rfl w.heap.size 37 i0 (.int .u64 0) 1 Trym.underlying31 hi hz0 hz1 _ _ _ _ n rfl rfl rfl rfl ?b2 ?b3 (Nat.le_refl _) ?_)
  case b2 => rw [hz2]; omega
  case b3 => unfold maxLen; omega
  intro w0 hown0 hgrow0
  simp only [toList_madeCells_one] at hown0
  rw [cp_zero zs n] at hown0
  go_wp2
  go_loopw [12] (fun i wr => ∃ k : Nat, k ≤ n ∧ i = .int .i64 k ∧ wr.ownsRow w.heap.size 37 1 (.slice (some ⟨w.heap.size, 0, none⟩) n n) n (cp zs n k) ∧ w.grownBy wr none) (fun i _ => n - (intOf i).toNat)
  case atStart => exact ⟨0, by omega, rfl, hown0, hgrow0⟩
  case round =>
    obtain ⟨k, hk, rfl, hown, hgrow⟩ := hrel
    clear hown0 hgrow0
    by_cases hlt : k < n
    · obtain ⟨b, off, hx, hb, hc⟩ := h (by omega)
      obtain rfl := Option.some.inj hx
      have hcx : wr.cell? ⟨b, off + k, none⟩ = some (.int .u64 (zs.getD k 0)) := hgrow.cell (hc k hlt) (by simp)
      have hcy : wr.cell? ⟨w.heap.size, k, none⟩ = some (.int .u64 0) := by rw [hown.cellAt k (by omega), cp_at zs n k hz hlt]
      have hfy := hown.frozenAt k
      have hst := hown.stored k (.int .u64 (zs.getD k 0))
      rw [cp_step zs n k hz hlt] at hst
      obtain ⟨hs1, hs2⟩ := hst
      have hg2 := grown_new hgrow hs2 (Nat.le_refl _)
      clear hc h hgrow hown hs2 hx
      go_wp2
      go_roundw
      case rel => exact ⟨k + 1, by omega, by go_num, by simpa [List.getD, show k < zs.length by omega] using hs1, by simpa [List.getD, show k < zs.length by omega] using hg2⟩
      case measure => simp [intOf]; omega
    · obtain rfl : k = n := by omega
      rw [cp_end zs k hz] at hown
      go_wp2
      go_ret
      exact ⟨rfl, hown, hgrow⟩

/-- A slice of the call's own, as the copy leaves it: nil, or the head of a block of its own. -/
def Own (w : World) (base : Nat) (v : Value) (zs : List Int) : Prop := w.ownsRow base 37 1 v zs.length (zs.map (Value.int .u64))

/-- The copy, whatever the slice. -/
theorem clone_any (a : Option Addr) (n c : Nat) (zs : List Int) (w : World) (hm : n ≤ 1048576) (hnil : a = none → n = 0 ∧ c = 0) (h : Rd w a n zs) :
    Calls Trym.prog 17 #[.slice a n c] w fun e w' => ∃ a', e = .returned (.slice a' n n) ∧ (a' = none → n = 0) ∧ Own w' w.heap.size (.slice a' n n) zs ∧ w.grownBy w' none := by
  have hz := h.1
  cases a with
  | none =>
    obtain ⟨rfl, rfl⟩ := hnil rfl
    obtain rfl := List.eq_nil_of_length_eq_zero hz
    refine (clone_nil w).mono fun e w' ⟨he, hw⟩ => ⟨none, he, fun _ => rfl, ?_, ?_⟩
    · exact World.ownsRow_nil _ _ _ _
    · subst hw; exact World.grownBy.refl _ _
  | some x =>
    refine (clone_some x n c zs w hm h).mono fun e w' ⟨he, h1, h2⟩ => ⟨some ⟨w.heap.size, 0, none⟩, he, (fun h => by cases h), ?_, h2⟩
    unfold Own; rw [hz]; exact h1

/-- What is owned can be read. -/
theorem rd_own {w : World} {base : Nat} {a : Option Addr} {n c : Nat} {zs : List Int} (h : Own w base (.slice a n c) zs) : Rd w a n zs ∧ n ≤ c ∧ c ≤ maxLen ∧ (a = none → n = 0 ∧ c = 0) := by
  obtain ⟨h1, h2⟩ := h
  rcases h2 with ⟨hv, hn⟩ | ⟨g, cap, cur, hv, hbg, hg, hnc, hcm, hcs, htake⟩
  · simp at hv
    obtain ⟨rfl, rfl, rfl⟩ := hv
    refine ⟨⟨hn, fun h => by omega⟩, by omega, by omega, fun _ => ⟨rfl, rfl⟩⟩
  · simp at hv
    obtain ⟨rfl, hn, rfl⟩ := hv
    subst hn
    refine ⟨⟨rfl, fun _ => ⟨g, 0, rfl, ?_, fun t ht => ?_⟩⟩, hnc, hcm, (fun h => by cases h)⟩
    · exact (Array.getElem?_eq_some_iff.1 hg).1
    · have hown : w.ownsRow base 37 1 (.slice (some ⟨g, 0, none⟩) zs.length c) zs.length (zs.map (Value.int .u64)) := ⟨h1, .inr ⟨g, c, cur, rfl, hbg, hg, hnc, hcm, hcs, htake⟩⟩
      have := hown.cellAt t (by omega)
      rw [Nat.zero_add, this]
      simp [List.getD, ht]

theorem own_lt {w : World} {base : Nat} {v : Value} {zs : List Int} (h : Own w base v zs) {k : Nat} (hk : v.ownBlock = some k) : base ≤ k ∧ k < w.heap.size := World.ownsRow.lt h k hk

theorem own_kept {w w' : World} {base : Nat} {v : Value} {zs : List Int} {row : Option Nat} (h : Own w base v zs) (hg : w.grownBy w' row) (hne : v.ownBlock = none ∨ v.ownBlock ≠ row) : Own w' base v zs := World.ownsRow.kept h hg hne

theorem own_mono {w : World} {base b' : Nat} {v : Value} {zs : List Int} (h : Own w base v zs) (hb : b' ≤ base) : Own w b' v zs := by
  obtain ⟨h1, h2⟩ := h
  refine ⟨h1, ?_⟩
  rcases h2 with h2 | ⟨g, cap, cur, hv, hbg, r⟩
  · exact .inl h2
  · exact .inr ⟨g, cap, cur, hv, by omega, r⟩

end Go.Proofs.Qxb6600024aMods.Mrg
