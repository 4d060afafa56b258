/-
  The walk of the merge (24) and of its exported twin (18).
-/
import Derived.Test.Qxb6600024aModsWa
import Derived.ArgAppend
import Derived.Laws.AppendOwnNone
namespace Go.Proofs.Qxb6600024aMods.Mrg
open Go.RowKit
set_option linter.unusedVariables false

theorem rd_cells {w : World} {b off m : Nat} {zs : List Int} (hz : zs.length = m) (hc : ∀ t, t < m → w.cell? ⟨b, off + t, none⟩ = some (.int .u64 (zs.getD t 0))) :
    ∀ j u, (zs.map (Value.int .u64))[j]? = some u → w.cell? ((⟨b, off, none⟩ : Addr).add j) = some u := by
  intro j u hu
  have hj : j < zs.length := by
    have := (List.getElem?_eq_some_iff.1 hu).1
    simpa using this
  rw [Addr.add_lit, hc j (by omega)]
  simp [hj] at hu
  simp [List.getD, hj, hu]

theorem own_drewN {w : World} {base : Nat} {e : TypeId} {size : Nat} {v : Value} {n : Nat} {xs : List Value} (q : Nat) (h : w.ownsRow base e size v n xs) : (w.drewN q).ownsRow base e size v n xs := h
theorem grown_drewN' {w w1 : World} {row : Option Nat} (q : Nat) (h : w.grownBy w1 row) : w.grownBy (w1.drewN q) row := grown_trans h (grown_drewN _ _ _)

set_option maxHeartbeats 1000000 in
theorem merge_long (a0 : Option Addr) (n : Nat) (b off m c1 : Nat) (A B : List Int) (w : World) (hn : n ≤ 1048576) (hm : m ≤ 1048576) (hm0 : 0 < m) (hA : Up A) (hB : Up B)
    (hnil : a0 = none → n = 0) (h0 : Rd w a0 n A) (hbl : b < w.heap.size) (hzB : B.length = m) (hcB : ∀ t, t < m → w.cell? ⟨b, off + t, none⟩ = some (.int .u64 (B.getD t 0))) :
    Calls Trym.prog 24 #[.slice a0 n n, .slice (some ⟨b, off, none⟩) m c1] w fun e w' => ∃ g cap X, e = .returned (.slice (some ⟨g, 0, none⟩) (n + m) cap) ∧
      Own w' w.heap.size (.slice (some ⟨g, 0, none⟩) (n + m) cap) X ∧ X.length = n + m ∧ Up X ∧ X.Perm (A ++ B) ∧ w.grownBy w' none := by
  obtain ⟨hzA, h0⟩ := h0
  obtain ⟨i0, hi, hz0, hz1, hz2⟩ := info_parts info37
  go_enter Trym.func24, Trym.ntmps24
  go_wp2_with (at_builtin; refine wpList_append_grows _ rfl (.tmp 14) (.tmp 15) 31 rfl 37 i0 (.int .u64 0) 1 8 Trym.underlying31 hi hz0 hz1 hz2 rfl (by decide) a0 n n (A.map (Value.int .u64)) rfl ?c0 ?c1 ?c2 ⟨b, off, none⟩ m c1 (B.map (Value.int .u64)) rfl ?c3 ?c4 ?c5 (by omega) (by unfold maxLen; omega) (by omega) ?grow)
  case c0 => intro h; exact ⟨hnil h, hnil h⟩
  case c1 => simpa using hzA
  case c2 =>
    intro x hx j u hu
    have hj : j < n := by
      have := (List.getElem?_eq_some_iff.1 hu).1
      simp at this; omega
    obtain ⟨b', off', hx', _, hc'⟩ := h0 (by omega)
    rw [hx'] at hx
    obtain rfl := Option.some.inj hx
    exact rd_cells hzA hc' j u hu
  case c3 => simpa using hzB
  case c4 => exact rd_cells hzB hcB
  case c5 => exact ints_oneCell _ _
  intro v' w1 hown hgrow
  obtain ⟨hl1, hown2⟩ := hown
  rcases hown2 with ⟨_, hbad⟩ | ⟨g, cap, cur, rfl, hbg, hg, hnc, hcm, hcs, htake⟩
  · omega
  have hown : w1.ownsRow w.heap.size 37 1 (.slice (some ⟨g, 0, none⟩) (n + m) cap) (n + m) ((A ++ B).map (Value.int .u64)) := by
    rw [List.map_append]
    exact ⟨hl1, .inr ⟨g, cap, cur, rfl, hbg, hg, hnc, hcm, hcs, htake⟩⟩
  have hinv := inv_start A B
  rw [hzA, hzB] at hinv
  clear hl1 hg hcs htake h0
  go_wp2
  go_loopw [5, 6, 7] (fun vi vj vk wr => ∃ (si sj : Nat) (X : List Int), vi = .int .i64 ((si : Int) - 1) ∧ vj = .int .i64 ((sj : Int) - 1) ∧ vk = .int .i64 ((si : Int) + (sj : Int) - 1) ∧ Inv A B X si sj ∧
      wr.ownsRow w.heap.size 37 1 (.slice (some ⟨g, 0, none⟩) (n + m) cap) (n + m) (X.map (Value.int .u64)) ∧ w.grownBy wr none) (fun vi vj _ _ => (intOf vi + 1).toNat + (intOf vj + 1).toNat)
  case atStart => exact ⟨n, m, A ++ B, rfl, rfl, rfl, hinv, hown, hgrow⟩
  case round =>
    obtain ⟨si, sj, X, rfl, rfl, rfl, hI, hown', hgrow'⟩ := hrel
    clear hown hinv hgrow
    have l1 := hI.la
    have l2 := hI.lb
    have l3 := hI.len
    rw [hzA] at l1 l3
    rw [hzB] at l2 l3
    cases sj with
    | zero =>
      obtain ⟨u1, u2⟩ := inv_end hA hI
      go_wp2
      go_ret
      exact ⟨g, cap, X, rfl, by unfold Own; rw [l3]; exact hown', l3, u1, u2, hgrow'⟩
    | succ t =>
      have ej : (((t + 1 : Nat) : Int) - 1) = (t : Int) := by omega
      rw [ej]
      obtain ⟨y, hy⟩ : ∃ y, y = B.getD t 0 := ⟨_, rfl⟩
      have gB : wr.cell? ⟨b, off + t, none⟩ = some (.int .u64 y) := by rw [hy]; exact hgrow'.cell (hcB t (by omega)) (by simp)
      have bt : (t : Int) < (m : Int) := by omega
      cases si with
      | zero =>
        have ei : (((0 : Nat) : Int) - 1) = -1 := by omega
        have ek : ((0 : Nat) : Int) + ((t + 1 : Nat) : Int) - 1 = (t : Int) := by omega
        rw [ei, ek]
        have cK : wr.cell? ⟨g, t, none⟩ = some (.int .u64 (X.getD t 0)) := by
          rw [hown'.cellAt t (by omega)]; simp [List.getD, show t < X.length by omega]
        have fK := hown'.frozenAt t
        obtain ⟨hs1, hs2⟩ := hown'.stored t (.int .u64 y)
        have hg2 := grown_new hgrow' hs2 hbg
        have hI2 := inv_b hA hB hI (fun i hi => by omega)
        rw [Nat.zero_add, ← hy] at hI2
        rw [← List.map_set] at hs1
        clear hown' hgrow' hs2 hy
        go_wp2
        go_quiet (fail)
        go_wp2
        go_roundw
        case rel => exact ⟨0, t, X.set t y, by go_num, by go_num, by go_num, hI2, own_drewN nq hs1, grown_drewN' nq hg2⟩
        case measure => simp [intOf]
      | succ s =>
        have ei : (((s + 1 : Nat) : Int) - 1) = (s : Int) := by omega
        have ek : ((s + 1 : Nat) : Int) + ((t + 1 : Nat) : Int) - 1 = ((s + t + 1 : Nat) : Int) := by omega
        rw [ei, ek]
        have eX : X.getD s 0 = A.getD s 0 := hI.front s (by omega)
        obtain ⟨x, hx⟩ : ∃ x, x = A.getD s 0 := ⟨_, rfl⟩
        have cA : wr.cell? ⟨g, s, none⟩ = some (.int .u64 x) := by
          rw [hown'.cellAt s (by omega), hx, ← eX]; simp [List.getD, show s < X.length by omega]
        have cK : wr.cell? ⟨g, s + t + 1, none⟩ = some (.int .u64 (X.getD (s + t + 1) 0)) := by
          rw [hown'.cellAt (s + t + 1) (by omega)]; simp [List.getD, show s + t + 1 < X.length by omega]
        have fK := hown'.frozenAt (s + t + 1)
        have bs : (s : Int) < ((n + m : Nat) : Int) := by omega
        have bk : ((s + t + 1 : Nat) : Int) < ((n + m : Nat) : Int) := by omega
        by_cases hgt : y < x
        · obtain ⟨hs1, hs2⟩ := hown'.stored (s + t + 1) (.int .u64 x)
          have hg2 := grown_new hgrow' hs2 hbg
          have hI2 := inv_a hA hB hI (by omega)
          rw [← hx] at hI2
          rw [← List.map_set] at hs1
          clear hown' hgrow' hs2 eX hx hy
          go_wp2
          go_quiet (fail)
          go_wp2
          go_roundw
          case rel => exact ⟨s, t + 1, X.set (s + t + 1) x, by go_num, by go_num, by go_num, hI2, own_drewN nq hs1, grown_drewN' nq hg2⟩
          case measure => simp [intOf]
        · obtain ⟨hs1, hs2⟩ := hown'.stored (s + t + 1) (.int .u64 y)
          have hg2 := grown_new hgrow' hs2 hbg
          have hI2 := inv_b hA hB hI (fun i hi => by obtain rfl : i = s := by omega
                                                     omega)
          rw [show s + 1 + t = s + t + 1 by omega, ← hy] at hI2
          rw [← List.map_set] at hs1
          clear hown' hgrow' hs2 eX hx hy
          go_wp2
          go_quiet (fail)
          go_wp2
          go_roundw
          case rel => exact ⟨s + 1, t, X.set (s + t + 1) y, by go_num, by go_num, by go_num, hI2, own_drewN nq hs1, grown_drewN' nq hg2⟩
          case measure => simp [intOf]

/-- The slice value is nil, or the head of a row. -/
theorem own_shape {w : World} {base : Nat} {v : Value} {n : Nat} {xs : List Value} (h : w.ownsRow base 37 1 v n xs) : ∃ a c, v = .slice a n c := by
  rcases h.2 with ⟨hv, hn⟩ | ⟨g, cap, cur, hv, r⟩
  · exact ⟨none, 0, by rw [hv, hn]⟩
  · exact ⟨_, _, hv⟩

set_option maxHeartbeats 400000 in
theorem merge_nil (base : Nat) (a0 : Option Addr) (n c0 : Nat) (A : List Int) (w : World) (hn : n ≤ 1048576) (hown : w.ownsRow base 37 1 (.slice a0 n c0) n (A.map (Value.int .u64))) :
    Calls Trym.prog 24 #[.slice a0 n c0, .slice none 0 0] w fun e w' => e = .returned (.slice a0 n c0) ∧ w' = w := by
  obtain ⟨i0, hi, hz0, hz1, hz2⟩ := info_parts info37
  go_enter Trym.func24, Trym.ntmps24
  go_wp2_with (at_builtin; refine wpList_append_own_none rfl (.tmp 14) (.tmp 15) 31 rfl base 37 i0 1 Trym.underlying31 hi _ n _ rfl hown rfl ?_)
  refine wp_loop_rounds 1 ?_
  rw [rounds_succ]
  go_wp2
  go_ret
  exact ⟨rfl, rfl⟩

set_option maxHeartbeats 400000 in
theorem merge_empty (base : Nat) (a0 : Option Addr) (n c0 : Nat) (ad : Addr) (c1 : Nat) (A : List Int) (w : World) (hn : n ≤ 1048576) (hbase : base ≤ w.heap.size) (hown : w.ownsRow base 37 1 (.slice a0 n c0) n (A.map (Value.int .u64))) :
    Calls Trym.prog 24 #[.slice a0 n c0, .slice (some ad) 0 c1] w fun e w' => ∃ a' c', e = .returned (.slice a' n c') ∧ w'.ownsRow base 37 1 (.slice a' n c') n (A.map (Value.int .u64)) ∧ w.grownBy w' (Value.slice a0 n c0).ownBlock := by
  obtain ⟨i0, hi, hz0, hz1, hz2⟩ := info_parts info37
  go_enter Trym.func24, Trym.ntmps24
  go_wp2_with (at_builtin; refine wpList_append_own _ rfl (.tmp 14) (.tmp 15) 31 rfl base 37 i0 (.int .u64 0) 1 8 Trym.underlying31 hi hz0 hz1 hz2 rfl (by decide) _ n _ rfl hown ad 0 c1 [] rfl rfl (by intro j u h; simp at h) (by intro u h; simp at h) (by unfold maxLen; omega) (by omega) hbase ?_)
  intro v' w1 hown' hgrow _
  replace hown' : w1.ownsRow base 37 1 v' n (A.map (Value.int .u64)) := by simpa using hown'
  obtain ⟨a', c', rfl⟩ := own_shape hown'
  go_wp2
  refine wp_loop_rounds 1 ?_
  rw [rounds_succ]
  go_wp2
  go_ret
  exact ⟨a', c', rfl, hown', hgrow⟩

/-- THE MERGE. -/
theorem merge_any (base : Nat) (a0 : Option Addr) (n : Nat) (a1 : Option Addr) (m c1 : Nat) (A B : List Int) (w : World) (hn : n ≤ 1048576) (hm : m ≤ 1048576) (hA : Up A) (hB : Up B) (hbase : base ≤ w.heap.size)
    (h0 : Own w base (.slice a0 n n) A) (hnil1 : a1 = none → m = 0 ∧ c1 = 0) (h1 : Rd w a1 m B) :
    Calls Trym.prog 24 #[.slice a0 n n, .slice a1 m c1] w fun e w' => ∃ a' c' X, e = .returned (.slice a' (n + m) c') ∧
      Own w' base (.slice a' (n + m) c') X ∧ X.length = n + m ∧ Up X ∧ X.Perm (A ++ B) ∧ w.grownBy w' (Value.slice a0 n n).ownBlock := by
  obtain ⟨hR, _, _, hnil0⟩ := rd_own h0
  have hzA := hR.1
  have hzB := h1.1
  by_cases hm0 : m = 0
  · subst hm0
    obtain rfl := List.eq_nil_of_length_eq_zero hzB
    have h0' : w.ownsRow base 37 1 (.slice a0 n n) n (A.map (Value.int .u64)) := by
      have := h0; unfold Own at this; rwa [hzA] at this
    cases a1 with
    | none =>
      obtain ⟨_, rfl⟩ := hnil1 rfl
      refine (merge_nil base a0 n n A w hn h0').mono fun e w' ⟨he, hw⟩ => ⟨a0, n, A, he, ?_, hzA, hA, by simp, ?_⟩
      · subst hw; exact h0
      · subst hw; exact World.grownBy.refl _ _
    | some ad =>
      refine (merge_empty base a0 n n ad c1 A w hn hbase h0').mono fun e w' ⟨a', c', he, ho, hg⟩ => ⟨a', c', A, he, ?_, hzA, hA, by simp, hg⟩
      unfold Own; rw [hzA]; exact ho
  · obtain ⟨b, off, rfl, hb, hc⟩ := h1.2 (by omega)
    refine (merge_long a0 n b off m c1 A B w hn hm (by omega) hA hB (fun h => (hnil0 h).1) hR hb hzB hc).mono fun e w' ⟨g, cap, X, he, ho, hl, hu, hp, hg⟩ => ⟨_, cap, X, he, own_mono ho hbase, hl, hu, hp, grown_any hg _⟩

set_option maxHeartbeats 400000 in
theorem zzmerge_any (base : Nat) (a0 : Option Addr) (n : Nat) (a1 : Option Addr) (m c1 : Nat) (A B : List Int) (w : World) (hn : n ≤ 1048576) (hm : m ≤ 1048576) (hA : Up A) (hB : Up B) (hbase : base ≤ w.heap.size)
    (h0 : Own w base (.slice a0 n n) A) (hnil1 : a1 = none → m = 0 ∧ c1 = 0) (h1 : Rd w a1 m B) :
    Calls Trym.prog 18 #[.slice a0 n n, .slice a1 m c1] w fun e w' => ∃ a' c' X, e = .returned (.slice a' (n + m) c') ∧
      Own w' base (.slice a' (n + m) c') X ∧ X.length = n + m ∧ Up X ∧ X.Perm (A ++ B) ∧ w.grownBy w' (Value.slice a0 n n).ownBlock := by
  have hc := merge_any base a0 n a1 m c1 A B w hn hm hA hB hbase h0 hnil1 h1
  clear h0 h1
  go_enter Trym.func18, Trym.ntmps18
  go_wp2_with fail
  refine hc.mono ?_
  rintro e w' ⟨a', c', X, rfl, h1, h2, h3, h4, h5⟩
  go_wp2
  go_ret
  exact ⟨a', c', X, rfl, h1, h2, h3, h4, h5⟩

end Go.Proofs.Qxb6600024aMods.Mrg
