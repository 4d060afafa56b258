/-
  The walk of splitName (42) and of its exported twin (13), from a nil list.
-/
import Derived.Test.Qxb6600120aModsWa
import Derived.Deep.LoopGhost
import Derived.Deep.DeepCutAuto
import Derived.Deep.CutRange
import Derived.Deep.CutBlock
namespace Go.Proofs.Qxb6600120aMods.Spl
open Go.RowKit
set_option linter.unusedVariables false

def tcell (g n : Nat) (t : Tok) : List Value := [.slice (some ⟨g, t.s, none⟩) (t.e - t.s) (n - t.s), .int .i64 t.x]
def tcells (g n : Nat) (ts : List Tok) : List Value := ts.flatMap (tcell g n)
theorem tcells_snoc (g n : Nat) (ts : List Tok) (t : Tok) : tcells g n (ts ++ [t]) = tcells g n ts ++ tcell g n t := by simp [tcells]

/-- A run that may still go on. -/
def Part (z : List Int) (d : Bool) (i k : Nat) : Prop := i < k ∧ k ≤ z.length ∧ ∀ j, i ≤ j → j < k → dg z j = d
theorem part_start {z : List Int} {d : Bool} {i : Nat} (h : i < z.length) (hd : dg z i = d) : Part z d i (i + 1) :=
  ⟨by omega, by omega, fun j h1 h2 => by obtain rfl : j = i := by omega
                                         exact hd⟩
theorem part_step {z : List Int} {d : Bool} {i k : Nat} (h : Part z d i k) (hk : k < z.length) (e : dg z k = d) : Part z d i (k + 1) := by
  refine ⟨by have := h.1; omega, by omega, fun j h1 h2 => ?_⟩
  by_cases ht : j = k
  · subst ht; exact e
  · exact h.2.2 j h1 (by omega)

theorem own_shape {w : World} {base : Nat} {e : TypeId} {size : Nat} {v : Value} {n : Nat} {xs : List Value} (h : w.ownsRow base e size v n xs) : ∃ a c, v = .slice a n c := by
  rcases h.2 with ⟨hv, hn⟩ | ⟨g, cap, cur, hv, r⟩
  · exact ⟨none, 0, by rw [hv, hn]⟩
  · exact ⟨_, _, hv⟩

theorem digit_as (y : Int) (d : Bool) (h : d = isd y) (w : World) : Calls Trym.prog 48 #[.int .u8 y] w fun e w' => e = .returned (.bool d) ∧ w = w' :=
  (digit_any y w).mono fun e w' ⟨he, hw⟩ => ⟨by rw [he, h], hw.symm⟩

set_option maxHeartbeats 400000 in
theorem split_none (a : Option Addr) (c : Nat) (w : World) :
    Calls Trym.prog 42 #[.slice none 0 0, .slice a 0 c] w fun e w' => e = .returned (.slice none 0 0) ∧ w' = w := by
  go_enter Trym.func42, Trym.ntmps42
  go_wp2
  refine wp_loop_rounds 1 ?_
  rw [rounds_succ]
  go_wp2
  go_ret
  exact ⟨rfl, rfl⟩

set_option maxHeartbeats 2000000 in
set_option maxRecDepth 100000 in
theorem split_some (g n : Nat) (z : List Int) (w : World) (hn : n ≤ 1048576) (hz : z.length = n) (hg : g < w.heap.size) (hc : ∀ t, t < n → w.cell? ⟨g, t, none⟩ = some (.int .u8 (z.getD t 0))) :
    Calls Trym.prog 42 #[.slice none 0 0, .slice (some ⟨g, 0, none⟩) n n] w fun e w' => ∃ a c ts, e = .returned (.slice a ts.length c) ∧
      w'.ownsRow w.heap.size 29 2 (.slice a ts.length c) ts.length (tcells g n ts) ∧ Good z ts n ∧ Below w.heap.size w w' := by
  obtain ⟨i0, hi, hz0, hz1, hz2⟩ := info_parts info29
  have HC : Hid (∀ t, t < n → w.cell? ⟨g, t, none⟩ = some (.int .u8 (z.getD t 0))) := hc
  have HZ : Hid (z.length = n) := hz
  clear hc hz
  go_enter Trym.func42, Trym.ntmps42
  go_wp2
  go_loopg [0, 5] n (fun gk v vi wx => ∃ (i : Nat) (a : Option Addr) (c : Nat) (ts : List Tok), gk = n - i ∧ v = .slice a ts.length c ∧ vi = .int .i64 i ∧ wx.ownsRow w.heap.size 29 2 (.slice a ts.length c) ts.length (tcells g n ts) ∧
    Good z ts i ∧ Hid (0 < i → i < n → dg z (i - 1) ≠ dg z i) ∧ Below w.heap.size w wx)
  case atStart => exact ⟨0, none, 0, [], rfl, rfl, rfl, World.ownsRow_nil _ _ _ _, good_start z, fun h => by omega, Below.refl _ _⟩
  case round =>
    obtain ⟨i, a, c, ts, rfl, rfl, rfl, hown, hG, hE, hB⟩ := hrel
    have g1 := hG.le
    have g2 := hG.cnt
    rw [HZ.out] at g1
    have hsz := hB.size
    by_cases hin : i < n
    · have c0 : wr.cell? ⟨g, i, none⟩ = some (.int .u8 (z.getD i 0)) := (hB.cell (by exact hg)).trans (HC.out i hin)
      obtain ⟨y, hy⟩ : ∃ y, y = z.getD i 0 := ⟨_, rfl⟩
      obtain ⟨d, hd⟩ : ∃ d, d = isd y := ⟨_, rfl⟩
      rw [← hy] at c0
      have HD : Hid (dg z i = d) := by rw [hd, hy]; rfl
      have KH : Hid (∀ w, Calls Trym.prog 48 #[.int .u8 y] w fun e w' => e = .returned (.bool d) ∧ w = w') := fun w => digit_as y d hd w
      clear hy hd
      go_upto_block 2 with (go_at_call 48; refine (KH.out _).mono ?_; rintro e w' ⟨rfl, rfl⟩)
      go_cut [6] (fun vk wx => wr = wx ∧ ∃ k : Nat, vk = .int .i64 k ∧ Part z d i k ∧ Hid (k < n → ¬ dg z k = d))
      case first =>
        go_wp2
        go_loopg [6] (n - (i + 1)) (fun gk vk wx => wr = wx ∧ ∃ k : Nat, gk = n - k ∧ vk = .int .i64 k ∧ Part z d i k)
        case atStart => exact ⟨rfl, i + 1, rfl, by go_num, part_start (by rw [HZ.out]; exact hin) HD.out⟩
        case round =>
          obtain ⟨rfl, k, rfl, rfl, hP⟩ := hrel
          have p1 := hP.1
          have p2 := hP.2.1
          rw [HZ.out] at p2
          by_cases hkn : k < n
          · have c1 : wr.cell? ⟨g, k, none⟩ = some (.int .u8 (z.getD k 0)) := (hB.cell (by exact hg)).trans (HC.out k hkn)
            obtain ⟨y1, hy1⟩ : ∃ y, y = z.getD k 0 := ⟨_, rfl⟩
            obtain ⟨d1, hd1⟩ : ∃ d, d = isd y1 := ⟨_, rfl⟩
            rw [← hy1] at c1
            have HD1 : Hid (dg z k = d1) := by rw [hd1, hy1]; rfl
            have KH1 : Hid (∀ w, Calls Trym.prog 48 #[.int .u8 y1] w fun e w' => e = .returned (.bool d1) ∧ w = w') := fun w => digit_as y1 d1 hd1 w
            clear hy1 hd1
            by_cases hdd : d1 = d
            · have hb : (d1 == d) = true := by simp [hdd]
              have hP' := part_step hP (by rw [HZ.out]; exact hkn) (by rw [HD1.out]; exact hdd)
              clear hdd
              go_wp2_with (go_at_call 48; refine (KH1.out _).mono ?_; rintro e w' ⟨rfl, rfl⟩)
              go_roundg (n - (k + 1))
              case measure => omega
              case rel => exact ⟨rfl, k + 1, rfl, by go_num, hP'⟩
            · have hb : (d1 == d) = false := by simp [hdd]
              have hP' : Hid (k < n → ¬ dg z k = d) := fun _ => by rw [HD1.out]; exact hdd
              clear hdd
              go_wp2_with (go_at_call 48; refine (KH1.out _).mono ?_; rintro e w' ⟨rfl, rfl⟩)
              go_meet
              case rel => exact ⟨rfl, k, rfl, hP, hP'⟩
          · have hP' : Hid (k < n → ¬ dg z k = d) := fun h => by omega
            go_wp2
            go_meet
            case rel => exact ⟨rfl, k, rfl, hP, hP'⟩
      case rest =>
        obtain ⟨rfl, k, rfl, hP, hX⟩ := hcut
        have p1 := hP.1
        have p2 := hP.2.1
        rw [HZ.out] at p2
        go_upto_region 8 with fail
        go_cut [61] (fun t wx => wr.alloc (Obj.cells #[Value.slice (some ⟨g, i, none⟩) (k - i) (n - i), Value.int IntKind.i64 (-1)] 29) = wx ∧ ∃ b : Bool, t = .bool b)
        case first =>
          have c0' : (wr.alloc (Obj.cells #[Value.slice (some ⟨g, i, none⟩) (k - i) (n - i), Value.int IntKind.i64 (-1)] 29)).cell? ⟨g, i, none⟩ = some (.int .u8 y) :=
            (((Below.refl wr.heap.size wr).alloc (Nat.le_refl _) _).cell (by exact Nat.lt_of_lt_of_le hg hsz)).trans c0
          cases d
          · go_wp2
            go_meet
            case rel => exact ⟨rfl, _, rfl⟩
          · by_cases h9 : (k : Int) - (i : Int) ≤ 9
            · cases h48 : (y != 48)
              · go_wp2
                go_meet
                case rel => exact ⟨rfl, _, rfl⟩
              · go_wp2
                go_meet
                case rel => exact ⟨rfl, _, rfl⟩
            · go_wp2
              go_meet
              case rel => exact ⟨rfl, _, rfl⟩
        case rest =>
          obtain ⟨rfl, b, rfl⟩ := hcut
          go_upto_if 61 with fail
          go_cut [10] (fun _ wx => ∃ x : Int, wr.alloc (Obj.cells #[Value.slice (some ⟨g, i, none⟩) (k - i) (n - i), Value.int IntKind.i64 x] 29) = wx)
          case first =>
            cases b
            · go_wp2
              go_meet
              case rel => exact ⟨_, rfl⟩
            · go_wp2
              go_loopg [66] (k - i) (fun gk vq wx => ∃ (q : Nat) (x : Int), gk = k - i - q ∧ q ≤ k - i ∧ vq = .int .i64 q ∧ wr.alloc (Obj.cells #[Value.slice (some ⟨g, i, none⟩) (k - i) (n - i), Value.int IntKind.i64 x] 29) = wx)
              case atStart => exact ⟨0, _, rfl, by omega, rfl, rfl⟩
              case round =>
                rename_i wr2
                obtain ⟨q, x, rfl, hq, rfl, rfl⟩ := hrel
                by_cases hqk : q < k - i
                · have c1 : (wr.alloc (Obj.cells #[Value.slice (some ⟨g, i, none⟩) (k - i) (n - i), Value.int IntKind.i64 x] 29)).cell? ⟨g, i + q, none⟩ = some (.int .u8 (z.getD (i + q) 0)) :=
                    (((Below.refl wr.heap.size wr).alloc (Nat.le_refl _) _).cell (by exact Nat.lt_of_lt_of_le hg hsz)).trans ((hB.cell (by exact hg)).trans (HC.out (i + q) (by omega)))
                  generalize z.getD (i + q) 0 = y1 at c1
                  have hqk' : (q : Int) < ((k - i : Nat) : Int) := by omega
                  go_wp2
                  go_roundg (k - i - (q + 1))
                  case measure => omega
                  case rel => exact ⟨q + 1, _, rfl, by omega, by go_num, rfl⟩
                · obtain rfl : q = k - i := by omega
                  go_wp2
                  go_meet
                  case rel => exact ⟨_, rfl⟩
          case rest =>
            obtain ⟨x, rfl⟩ := hcut
            go_wp2_with (at_builtin; refine wpList_append_own _ rfl (.tmp 79) (.tmp 81) 25 rfl w.heap.size 29 i0 (.agg #[.slice none 0 0, .int .i64 0]) 2 32 Trym.underlying25 hi hz0 hz1 hz2 rfl (by decide) _ ts.length _ rfl ((hown.alloc _).alloc _) ⟨wr.heap.size + 1, 0, none⟩ 1 1 (tcell g n ⟨i, k, x⟩) rfl rfl ?c1 ?c2 ?c3 ?c4 ?c5 ?_)
            case c1 =>
              have := cell_two_new (wr.alloc (Obj.cells #[Value.slice (some ⟨g, i, none⟩) (k - i) (n - i), Value.int IntKind.i64 x] 29)) (Value.slice (some ⟨g, i, none⟩) (k - i) (n - i)) (Value.int IntKind.i64 x) 29
              simpa [tcell] using this
            case c2 => intro u hu; simp [tcell] at hu; rcases hu with rfl | rfl <;> rfl
            case c3 => unfold maxLen; omega
            case c4 => omega
            case c5 => simp; omega
            intro v' w1 hown' hgrow _
            rw [← tcells_snoc] at hown'
            obtain ⟨a', c', rfl⟩ := own_shape hown'
            have hG' : Good z (ts ++ [⟨i, k, x⟩]) k := good_snoc hG p1 hP.2.1 (fun j h1 h2 => by rw [hP.2.2 j h1 h2, HD.out]) (fun h0 => hE.out h0 hin)
            have hE' : Hid (0 < k → k < n → dg z (k - 1) ≠ dg z k) := fun _ hk => by
              rw [hP.2.2 (k - 1) (by omega) (by omega)]
              exact fun h => hX.out hk h.symm
            have hB' : Below w.heap.size w w1 := ((hB.alloc hsz _).alloc (by simp; omega) _).grown hgrow (by simp; omega) (fun q hq => (hown.lt q hq).1)
            clear hown hgrow hB hG hE hX c0
            go_wp2
            go_roundg (n - k)
            case measure => omega
            case rel => exact ⟨k, a', c', ts ++ [⟨i, k, x⟩], rfl, by simp, rfl, by simpa using hown', hG', hE', hB'⟩
    · go_wp2
      obtain rfl : i = n := by omega
      go_ret
      exact ⟨a, c, ts, rfl, hown, hG, hB⟩

/-- The tokens of a copy. -/
theorem split_any (a : Option Addr) (n : Nat) (z : List Int) (w : World) (hn : n ≤ 1048576) (base : Nat) (h : Own w base (.slice a n n) z) :
    Calls Trym.prog 42 #[.slice none 0 0, .slice a n n] w fun e w' => ∃ g a' c' ts, e = .returned (.slice a' ts.length c') ∧ (0 < n → a = some ⟨g, 0, none⟩ ∧ g < w.heap.size) ∧
      w'.ownsRow w.heap.size 29 2 (.slice a' ts.length c') ts.length (tcells g n ts) ∧ Good z ts n ∧ Below w.heap.size w w' := by
  obtain ⟨⟨hz, hr⟩, _, _, hnil⟩ := rd_own h
  by_cases h0 : n = 0
  · subst h0
    refine (split_none a 0 w).mono fun e w' ⟨he, hw⟩ => ⟨0, none, 0, [], he, fun h => by omega, ?_, ?_, ?_⟩
    · exact World.ownsRow_nil _ _ _ _
    · exact good_start z
    · subst hw; exact Below.refl _ _
  · rcases h.2 with ⟨hv, _⟩ | ⟨g, cap, cur, hv, _, hg, _⟩
    · simp at hv; omega
    · simp at hv
      obtain ⟨rfl, _, rfl⟩ := hv
      obtain ⟨b, off, hb, hlt, hc⟩ := hr (by omega)
      obtain ⟨rfl, rfl⟩ : g = b ∧ 0 = off := by simpa using hb
      refine (split_some g n z w hn hz hlt (fun t ht => by have := hc t ht; rwa [Nat.zero_add] at this)).mono fun e w' ⟨a', c', ts, he, ho, hG, hB⟩ => ⟨g, a', c', ts, he, fun _ => ⟨rfl, hlt⟩, ho, hG, hB⟩

set_option maxHeartbeats 400000 in
theorem zzsplit_any (a : Option Addr) (n : Nat) (z : List Int) (w : World) (hn : n ≤ 1048576) (base : Nat) (h : Own w base (.slice a n n) z) :
    Calls Trym.prog 13 #[.slice none 0 0, .slice a n n] w fun e w' => ∃ g a' c' ts, e = .returned (.slice a' ts.length c') ∧ (0 < n → a = some ⟨g, 0, none⟩ ∧ g < w.heap.size) ∧
      w'.ownsRow w.heap.size 29 2 (.slice a' ts.length c') ts.length (tcells g n ts) ∧ Good z ts n ∧ Below w.heap.size w w' := by
  have hc := split_any a n z w hn base h
  clear h
  go_enter Trym.func13, Trym.ntmps13
  go_wp2_with fail
  refine hc.mono ?_
  rintro e w' ⟨g, a', c', ts, rfl, h1, h2, h3, h4⟩
  clear hc
  go_wp2
  go_ret
  exact ⟨g, a', c', ts, rfl, h1, h2, h3, h4⟩

end Go.Proofs.Qxb6600120aMods.Spl
