/-
  The law's own walk (3).
-/
import Derived.Test.Qxb6600120aModsWb
namespace Go.Proofs.Qxb6600120aMods.Spl
open Go.RowKit
set_option linter.unusedVariables false

theorem rd_grown {w w' : World} {a : Option Addr} {n : Nat} {zs : List Int} (h : Rd w a n zs) (hg : w.grownBy w' none) : Rd w' a n zs := by
  refine ⟨h.1, fun hn => ?_⟩
  obtain ⟨b, off, ha, hb, hc⟩ := h.2 hn
  exact ⟨b, off, ha, Nat.lt_of_lt_of_le hb hg.size, fun t ht => hg.cell (hc t ht) (by simp)⟩

theorem tcells_at (g n : Nat) : ∀ (ts : List Tok) (k : Nat), k < ts.length → (tcells g n ts)[k * 2]? = some (.slice (some ⟨g, (tk ts k).s, none⟩) ((tk ts k).e - (tk ts k).s) (n - (tk ts k).s)) ∧ (tcells g n ts)[k * 2 + 1]? = some (.int .i64 (tk ts k).x)
  | [], k, h => by simp at h
  | t :: ts, 0, h => by simp [tcells, tcell, tk]
  | t :: ts, k + 1, h => by
    have ih := tcells_at g n ts k (by simpa using h)
    have e : tcells g n (t :: ts) = tcell g n t ++ tcells g n ts := by simp [tcells]
    have e2 : tk (t :: ts) (k + 1) = tk ts k := by simp [tk, List.getD]
    rw [e, e2]
    constructor
    · rw [show (k + 1) * 2 = k * 2 + 2 by omega]
      simpa [tcell] using ih.1
    · rw [show (k + 1) * 2 + 1 = k * 2 + 1 + 2 by omega]
      simpa [tcell] using ih.2

theorem dig_as (y : Int) (d : Bool) (h : d = isd y) (w : World) : Calls Trym.prog 15 #[.int .u8 y] w fun e w' => e = .returned (.bool d) ∧ w = w' :=
  (dig_any y w).mono fun e w' ⟨he, hw⟩ => ⟨by rw [he, h], hw.symm⟩

set_option maxHeartbeats 2000000 in
set_option maxRecDepth 100000 in
theorem law_walk (a0 : Option Addr) (n c0 : Nat) (z : List Int) (w : World) (h0 : Rd w a0 n z) (hm0 : n ≤ maxLen) (hn0 : a0 = none → n = 0 ∧ c0 = 0) :
    Calls Trym.prog 3 #[.slice a0 n c0] w fun e w' => e = .returned (.bool true) ∧ Below w.heap.size w w' := by
  have k11 := small_any a0 n c0 w hm0
  by_cases hs : n ≤ 1048576
  · rw [decide_eq_true hs] at k11
    go_enter Trym.func3, Trym.ntmps3
    go_wp2_with fail
    refine k11.mono ?_
    rintro e w' ⟨rfl, hw⟩
    have hw := hw.symm
    subst hw
    clear k11
    go_wp2_with fail
    refine (clone_any a0 n c0 z w hs hn0 h0).mono ?_
    rintro e W1 ⟨b1, rfl, hb1, o1, gr1⟩
    have hz := h0.1
    clear h0
    have R1 := (rd_own o1).1
    have K13 := zzsplit_any b1 n z W1 hs _ o1
    clear o1
    have B1 : Below w.heap.size w W1 := (Below.refl _ _).grown gr1 (Nat.le_refl _) (fun k hk => by cases hk)
    clear gr1
    go_wp2_with fail
    refine K13.mono ?_
    rintro e W2 ⟨g, a', c', ts, rfl, hg, hown, hG, B2⟩
    clear K13
    have B3 : Below w.heap.size w W2 := B1.trans (B2.mono B1.size)
    have HG : Hid (Good z ts n) := hG
    have HO : Hid (W2.ownsRow W1.heap.size 29 2 (.slice a' ts.length c') ts.length (tcells g n ts)) := hown
    have HR : Hid (0 < n → b1 = some ⟨g, 0, none⟩ ∧ g < W2.heap.size ∧ ∀ t, t < n → W2.cell? ⟨g, t, none⟩ = some (.int .u8 (z.getD t 0))) := by
      intro hn
      obtain ⟨e1, e2⟩ := hg hn
      obtain ⟨b, off, e3, e4, e5⟩ := R1.2 hn
      rw [e1] at e3
      obtain ⟨rfl, rfl⟩ : g = b ∧ 0 = off := by simpa using e3
      refine ⟨e1, Nat.lt_of_lt_of_le e2 B2.size, fun t ht => ?_⟩
      have := e5 t ht
      rw [Nat.zero_add] at this
      exact (B2.cell (by exact e2)).trans this
    have hcnt := hG.cnt
    clear hG hown hg R1 B2 B1
    go_wp2
    go_loopg [4, 5] ts.length (fun gk vp vi wx => ∃ k : Nat, gk = ts.length - k ∧ k ≤ ts.length ∧ vi = .int .i64 k ∧ vp = .int .i64 (bnd ts n k) ∧ Below W2.heap.size W2 wx)
    case atStart => exact ⟨0, rfl, by omega, rfl, by rw [HG.out.zero]; rfl, Below.refl _ _⟩
    case round =>
      obtain ⟨k, rfl, hk, rfl, rfl, hB⟩ := hrel
      have hsz := hB.size
      by_cases hkl : k < ts.length
      · obtain ⟨t1, t2⟩ := tcells_at g n ts k hkl
        have u1 := HG.out.lo k hkl
        have u2 := HG.out.hi k hkl
        obtain ⟨rfl, hgl, hcn⟩ := HR.out (by omega)
        have hgt : ∃ gt, a' = some ⟨gt, 0, none⟩ := by
          rcases HO.out.2 with ⟨hv, h⟩ | ⟨gt, cap, cur, hv, _⟩
          · omega
          · simp at hv; exact ⟨gt, hv.1⟩
        obtain ⟨gt, rfl⟩ := hgt
        have q1 := HO.out.cellAt (k * 2) (by omega)
        have q2 := HO.out.cellAt (k * 2 + 1) (by omega)
        have hgtl : gt < W2.heap.size := (HO.out.lt gt rfl).2
        rw [t1] at q1
        rw [t2] at q2
        have d1 := (hB.cell (p := ⟨gt, k * 2, none⟩) hgtl).trans q1
        have d2 := (hB.cell (p := ⟨gt, k * 2 + 1, none⟩) hgtl).trans q2
        rw [bnd_lt hkl]
        have v1 := HG.out.nxt k hkl
        have v2 := HG.out.run k hkl
        have v3 := HG.out.edge k hkl
        have HV : Hid ((tk ts k).e = bnd ts n (k + 1) ∧ (∀ j, (tk ts k).s ≤ j → j < (tk ts k).e → dg z j = dg z (tk ts k).s) ∧ (0 < k → dg z ((tk ts k).s - 1) ≠ dg z (tk ts k).s)) := ⟨v1, v2, v3⟩
        have HCN : Hid (∀ t, t < n → W2.cell? ⟨g, t, none⟩ = some (.int .u8 (z.getD t 0))) := hcn
        clear v1 v2 v3 t1 t2 q1 q2 hcn
        have spos : 0 < k → 0 < (tk ts k).s := fun h0 => by
          have a1 := HG.out.nxt (k - 1) (by omega)
          have a2 := HG.out.lo (k - 1) (by omega)
          rw [show k - 1 + 1 = k by omega, bnd_lt hkl] at a1
          omega
        generalize (tk ts k).s = s at *
        generalize (tk ts k).e = e at *
        generalize (tk ts k).x = x at *
        have hlen0 : ((((e - s : Nat) : Int)) == 0) = false := beq_eq_false_iff_ne.2 (by omega)
        obtain ⟨y0, hy0⟩ : ∃ y, y = z.getD s 0 := ⟨_, rfl⟩
        obtain ⟨d, hd⟩ : ∃ d, d = isd y0 := ⟨_, rfl⟩
        have HD : Hid (dg z s = d) := by rw [hd, hy0]; rfl
        have KD : Hid (∀ w, Calls Trym.prog 15 #[.int .u8 y0] w fun e w' => e = .returned (.bool d) ∧ w = w') := fun w => dig_as y0 d hd w
        have HY : Hid (y0 = z.getD s 0) := hy0
        clear hd hy0
        go_wp2_with fail
        refine (text_any _ _ _ _ _).mono ?_
        rintro e1 W3 ⟨rfl, b3⟩
        have hB3 : Below W2.heap.size W2 W3 := hB.trans (b3.mono hsz)
        have e0 : W3.cell? ⟨g, s, none⟩ = some (.int .u8 y0) := by rw [HY.out]; exact (hB3.cell (by exact hgl)).trans (HCN.out s (by omega))
        clear hB b3 d1 d2
        go_wp2_with (go_at_call 15; refine (KD.out _).mono ?_; rintro e w' ⟨rfl, rfl⟩)
        go_loopg [8] (e - s) (fun gk vj wx => ∃ (j : Nat), gk = e - s - j ∧ j ≤ e - s ∧ vj = .int .i64 j ∧ Below W2.heap.size W2 wx)
        case atStart => exact ⟨0, rfl, by omega, rfl, hB3⟩
        case round =>
          obtain ⟨j, rfl, hj, rfl, hB4⟩ := hrel
          clear hB3 e0
          by_cases hje : j < e - s
          · obtain ⟨y, hy⟩ : ∃ y, y = z.getD (s + j) 0 := ⟨_, rfl⟩
            have e1 : wr.cell? ⟨g, s + j, none⟩ = some (.int .u8 y) := by rw [hy]; exact (hB4.cell (by exact hgl)).trans (HCN.out (s + j) (by omega))
            have hdy : d = isd y := by
              have := HV.out.2.1 (s + j) (by omega) (by omega)
              rw [HD.out] at this
              rw [hy]; exact this.symm
            have KY : Hid (∀ w, Calls Trym.prog 15 #[.int .u8 y] w fun e w' => e = .returned (.bool d) ∧ w' = w) := fun w => (dig_as y d hdy w).mono fun e w' h => ⟨h.1, h.2.symm⟩
            clear hdy hy
            have hnn : (y != y) = false := by simp
            have hdd : (d != d) = false := by simp
            have b1 : (j : Int) < ((e - s : Nat) : Int) := by omega
            have b2 : (s : Int) + (j : Int) < (n : Int) := by omega
            have b3 : (0 : Int) ≤ (s : Int) + (j : Int) := by omega
            go_wp2
            go_quiet ((go_at_call 15; exact Calls.quiet_of_same (KY.out _)))
            go_wp2
            go_roundg (e - s - (j + 1))
            case measure => omega
            case rel => exact ⟨j + 1, rfl, by omega, by go_num, below_drewN hB4 _⟩
          · obtain rfl : j = e - s := by omega
            by_cases hk0 : 0 < k
            · have hs0 := spos hk0
              obtain ⟨y, hy⟩ : ∃ y, y = z.getD (s - 1) 0 := ⟨_, rfl⟩
              obtain ⟨d1, hd1⟩ : ∃ d, d = isd y := ⟨_, rfl⟩
              have e1 : wr.cell? ⟨g, s - 1, none⟩ = some (.int .u8 y) := by rw [hy]; exact (hB4.cell (by exact hgl)).trans (HCN.out (s - 1) (by omega))
              have hdd : (d1 == d) = false := by
                have := HV.out.2.2 hk0
                rw [HD.out] at this
                rw [hd1, hy]
                exact beq_eq_false_iff_ne.2 this
              have KY : Hid (∀ w, Calls Trym.prog 15 #[.int .u8 y] w fun e w' => e = .returned (.bool d1) ∧ w = w') := fun w => dig_as y d1 hd1 w
              clear hy hd1
              have b1 : (0 : Int) < (k : Int) := by omega
              go_wp2_with (go_at_call 15; refine (KY.out _).mono ?_; rintro e w' ⟨rfl, rfl⟩)
              go_roundg (ts.length - (k + 1))
              case measure => omega
              case rel => exact ⟨k + 1, rfl, by omega, by go_num, by rw [← HV.out.1]; go_num, hB4⟩
            · obtain rfl : k = 0 := by omega
              go_wp2
              go_roundg (ts.length - (0 + 1))
              case measure => omega
              case rel => exact ⟨0 + 1, rfl, by omega, by go_num, by rw [← HV.out.1]; go_num, hB4⟩
      · obtain rfl : k = ts.length := by omega
        rw [bnd_end]
        have hnn : ((n : Int) == (n : Int)) = true := by simp
        go_wp2
        go_ret
        exact ⟨rfl, B3.trans (hB.mono B3.size)⟩
  · rw [decide_eq_false hs] at k11
    go_enter Trym.func3, Trym.ntmps3
    go_wp2_with fail
    refine k11.mono ?_
    rintro e w' ⟨rfl, hw⟩
    subst hw
    go_wp2_with fail
    go_ret
    exact ⟨rfl, Below.refl _ _⟩

end Go.Proofs.Qxb6600120aMods.Spl
