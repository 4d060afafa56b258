/-
  The walks of word (16), of its exported twin (10), of the bound on the length (9).
-/
import Derived.Test.Qxb6600555aModsRows
import Derived.Test.Qxb6600555aModsWordPlain
import Derived.WalkKit
import Derived.WalkSpells
import Derived.WalkLawsBesides
import Derived.Laws.Bits64
import Derived.Laws.BitsAllLaws
import Derived.Deep.LoopGhost
import Derived.Deep.DeepCutAuto
import Derived.Deep.CutRange
import Derived.Deep.CutBlock
namespace Go.Proofs.Qxb6600555aMods.Word
open Go.RowKit
set_option linter.unusedVariables false

theorem or_byte (X b : Nat) (hX : X < 72057594037927936) (hb : b < 256) : bits BinOp.or IntKind.u64 ((X : Int) * 256) (IntKind.u64.wrap (b : Int)) = ((b + 256 * X : Nat) : Int) := by
  have h1 : IntKind.u64.wrap (b : Int) = (b : Int) := by rw [IntKind.wrap_u64]; omega
  have h2 : ((X : Int) * 256) = ((X * 256 : Nat) : Int) := by omega
  rw [h1, h2, bits_or_u64_nat _ _ (by omega) (by omega)]
  have h3 := Nat.two_pow_add_eq_or_of_lt (i := 8) (b := b) (by omega) X
  congr 1
  rw [show X * 256 = 2 ^ 8 * X by omega, ← h3]
  omega

theorem and_one (Y : Nat) (hY : Y < 18446744073709551616) : bits BinOp.and IntKind.u64 (Y : Int) 1 = ((Y % 2 : Nat) : Int) := by
  rw [and_one_u64 _ (by omega) (by omega)]; omega
theorem div_pow (X p : Nat) : ((X : Int) / 2 ^ p) = ((X / 2 ^ p : Nat) : Int) := by simp
theorem test_in (X b p j : Nat) (hX : X < 18446744073709551616) (hb : b < 256) (h : X / 2 ^ p % 2 = b / 2 ^ j % 2) :
    (bits BinOp.and IntKind.u64 ((X : Int) / 2 ^ p) 1 != bits BinOp.and IntKind.u64 (IntKind.u64.wrap ((b : Int) / 2 ^ j)) 1) = false := by
  have h1 : X / 2 ^ p ≤ X := Nat.div_le_self _ _
  have h2 : b / 2 ^ j ≤ b := Nat.div_le_self _ _
  have h3 : IntKind.u64.wrap ((b : Int) / 2 ^ j) = ((b / 2 ^ j : Nat) : Int) := by
    rw [div_pow, IntKind.wrap_u64]
    generalize b / 2 ^ j = y at h2 ⊢
    omega
  rw [div_pow, h3, and_one _ (by omega), and_one _ (by omega), h]
  simp
theorem test_out (X p : Nat) (hX : X < 18446744073709551616) (h : X / 2 ^ p % 2 = 0) : (bits BinOp.and IntKind.u64 ((X : Int) / 2 ^ p) 1 != 0) = false := by
  have h1 : X / 2 ^ p ≤ X := Nat.div_le_self _ _
  rw [div_pow, and_one _ (by omega), h]
  simp

set_option maxHeartbeats 400000 in
theorem small_any (s : ByteArray) (v : Int) (w : World) (h0 : s.size ≤ maxLen) :
    Calls Trym.prog 9 #[.string s, .int .i64 v] w fun e w' => e = .returned (.bool (decide (s.size ≤ 1048576))) ∧ w = w' := by
  unfold maxLen at h0
  by_cases g0 : s.size ≤ 1048576
  · rw [decide_eq_true g0]
    go_enter Trym.func9, Trym.ntmps9
    go_wp2
    go_ret
    exact ⟨rfl, rfl⟩
  · rw [decide_eq_false g0]
    go_enter Trym.func9, Trym.ntmps9
    go_wp2
    go_ret
    exact ⟨rfl, rfl⟩

set_option maxHeartbeats 400000 in
theorem word_any (s : ByteArray) (v : Nat) (w : World) (hs : s.size ≤ 1048576) (hv : v ≤ 16777216) :
    Calls Trym.prog 16 #[.string s, .int .i64 v] w fun e w' => e = .returned (.int .u64 (val s v (8 * v) : Nat)) ∧ w = w' := by
  go_enter Trym.func16, Trym.ntmps16
  go_upto_region 2 with fail
  go_cut [6] (fun vk wx => w = wx ∧ vk = .int .i64 ((hi s v : Nat) - 1))
  case first =>
    by_cases hm : s.size ≤ 8 * v + 8
    · have hh : hi s v = s.size := by unfold hi; omega
      have HH : Hid (hi s v = s.size) := hh
      clear hh
      go_wp2
      all_goals go_meet
      all_goals exact ⟨rfl, by rw [HH.out]⟩
    · have hh : hi s v = 8 * v + 8 := by unfold hi; omega
      have HH : Hid (hi s v = 8 * v + 8) := hh
      clear hh
      go_wp2
      all_goals go_meet
      all_goals exact ⟨rfl, by rw [HH.out]; go_num⟩
  case rest =>
    obtain ⟨rfl, rfl⟩ := hcut
    have hh1 : hi s v ≤ s.size := by unfold hi; omega
    have hh2 : hi s v ≤ 8 * v + 8 := by unfold hi; omega
    go_wp2
    go_loopg [5, 6] (hi s v) (fun g x vk wx => w = wx ∧ ∃ t : Nat, t = g ∧ t ≤ hi s v ∧ vk = .int .i64 ((t : Int) - 1) ∧ x = .int .u64 (val s v t : Nat) ∧ Hid (8 * v ≤ t ∨ hi s v ≤ t))
    case atStart => exact ⟨rfl, hi s v, rfl, Nat.le_refl _, rfl, by rw [val_end s v _ (Nat.le_refl _)]; rfl, .inr (Nat.le_refl _)⟩
    case round =>
      obtain ⟨rfl, t, rfl, ht, rfl, rfl, hor⟩ := hrel
      by_cases hlt : 8 * v < t
      · obtain ⟨u, rfl⟩ : ∃ u, t = u + 1 := ⟨t - 1, by omega⟩
        have eu : ((u + 1 : Nat) : Int) - 1 = (u : Int) := by omega
        rw [eu]
        have hub : u < s.size := by omega
        have hst := val_step s v u (by omega)
        have hl := val_lt' s v u (by omega)
        have hby := byteAt_in s u hub
        have HS : Hid (val s v u = byteAt s u + 256 * val s v (u + 1) ∧ byteAt s u = (s[u]).toNat) := ⟨hst, hby⟩
        clear hst hby
        generalize val s v (u + 1) = X at *
        go_wp2
        go_roundg u
        case measure => omega
        case rel =>
          refine ⟨rfl, u, rfl, by omega, rfl, ?_, .inl (by omega)⟩
          rw [HS.out.1, HS.out.2, or_byte X _ hl (UInt8.toNat_lt _)]
      · have he : val s v t = val s v (8 * v) := by
          by_cases e : t = 8 * v
          · rw [e]
          · rw [val_end s v t (by have := hor.out; omega), val_end s v (8 * v) (by have := hor.out; omega)]
        have HE : Hid (val s v t = val s v (8 * v)) := he
        clear he
        go_wp2
        go_ret
        exact ⟨by rw [← HE.out]; rfl, rfl⟩

set_option maxHeartbeats 400000 in
theorem zzword_any (s : ByteArray) (v : Nat) (w : World) (hs : s.size ≤ 1048576) (hv : v ≤ 16777216) :
    Calls Trym.prog 10 #[.string s, .int .i64 v] w fun e w' => e = .returned (.int .u64 (val s v (8 * v) : Nat)) ∧ w = w' := by
  have hc := word_any s v w hs hv
  generalize val s v (8 * v) = X at hc ⊢
  go_enter Trym.func10, Trym.ntmps10
  go_wp2_with fail
  refine hc.mono ?_
  rintro e w' ⟨rfl, rfl⟩
  clear hc
  go_wp2
  go_ret
  exact ⟨rfl, rfl⟩

set_option maxHeartbeats 1000000 in
theorem law_in (s : ByteArray) (v : Nat) (w : World) (hs : s.size ≤ 1048576) (hv : v ≤ 16777216) :
    Calls Trym.prog 3 #[.string s, .int .i64 v] w fun e w' => e = .returned (.bool true) ∧ w = w' := by
  have k9 := small_any s v w (by unfold maxLen; omega)
  rw [decide_eq_true hs] at k9
  have k10 := zzword_any s v w hs hv
  have hb := val_bit s v
  have hl := val_lt s v (8 * v) (Nat.le_refl _)
  have HB : Hid (∀ p, p < 64 → val s v (8 * v) / 2 ^ p % 2 = byteAt s ((64 * v + p) / 8) / 2 ^ ((64 * v + p) % 8) % 2) := hb
  clear hb
  generalize val s v (8 * v) = X at *
  have HL : Hid (X < 18446744073709551616) := hl
  clear hl
  go_enter Trym.func3, Trym.ntmps3
  go_wp2_with fail
  refine k9.mono ?_
  rintro e w' ⟨rfl, rfl⟩
  clear k9
  go_wp2_with fail
  refine k10.mono ?_
  rintro e w' ⟨rfl, rfl⟩
  clear k10
  go_wp2
  go_loopg [6] 64 (fun g vp wx => w = wx ∧ ∃ p : Nat, g = 64 - p ∧ p ≤ 64 ∧ vp = .int .i64 p)
  case atStart => exact ⟨rfl, 0, rfl, by omega, rfl⟩
  case round =>
    obtain ⟨rfl, p, rfl, hp, rfl⟩ := hrel
    by_cases hlt : p < 64
    · have hB := HB.out p hlt
      have HBp : Hid (X / 2 ^ p % 2 = byteAt s ((64 * v + p) / 8) / 2 ^ ((64 * v + p) % 8) % 2) := hB
      clear hB HB
      go_upto_region 12 with fail
      go_cut [7, 8] (fun a b wx => w = wx ∧ a = .int .i64 (64 * v + p : Nat) ∧ b = .int .i64 ((64 * v + p) / 8 : Nat))
      case first =>
        go_wp2
        go_meet
        case rel => exact ⟨rfl, by go_num, by go_num⟩
      case rest =>
        obtain ⟨rfl, rfl, rfl⟩ := hcut
        have hP : 64 * v + p ≤ 1073741888 := by omega
        have hi8 : (64 * v + p) / 8 * 8 ≤ 64 * v + p := by omega
        generalize 64 * v + p = P at *
        obtain ⟨i, hi⟩ : ∃ i, i = P / 8 := ⟨_, rfl⟩
        obtain ⟨j, hj⟩ : ∃ j, j = P % 8 := ⟨_, rfl⟩
        have hj8 : j < 8 := by omega
        have hpj : ((P : Int) % 8) = (j : Int) := by omega
        rw [← hi, ← hj] at HBp
        rw [← hi] at hi8 ⊢
        clear hj hi
        by_cases hin : i < s.size
        · have hby := byteAt_in s i hin
          rw [hby] at HBp
          clear hby
          have ht := test_in X (s[i]).toNat p j HL.out (UInt8.toNat_lt _) HBp.out
          clear HBp
          go_wp2
          go_roundg (64 - (p + 1))
          case measure => omega
          case rel => exact ⟨rfl, p + 1, rfl, by omega, by go_num⟩
        · have hby := byteAt_out s i hin
          rw [hby] at HBp
          clear hby
          have ht := test_out X p HL.out (by rw [HBp.out]; simp)
          clear HBp
          go_wp2
          go_roundg (64 - (p + 1))
          case measure => omega
          case rel => exact ⟨rfl, p + 1, rfl, by omega, by go_num⟩
    · go_wp2
      go_ret
      exact ⟨rfl, rfl⟩

set_option maxHeartbeats 400000 in
theorem law_any (s : ByteArray) (v : Int) (w : World) (hs : s.size ≤ maxLen) :
    Calls Trym.prog 3 #[.string s, .int .i64 v] w fun e w' => e = .returned (.bool true) ∧ w = w' := by
  have k9 := small_any s v w hs
  by_cases g0 : s.size ≤ 1048576
  · by_cases g1 : 0 ≤ v
    · by_cases g2 : v ≤ 16777216
      · obtain ⟨n, rfl⟩ := Int.eq_ofNat_of_zero_le g1
        exact law_in s n w g0 (by omega)
      · rw [decide_eq_true g0] at k9
        go_enter Trym.func3, Trym.ntmps3
        go_wp2_with fail
        refine k9.mono ?_
        rintro e w' ⟨rfl, rfl⟩
        clear k9
        go_wp2_with fail
        go_ret
        exact ⟨rfl, rfl⟩
    · rw [decide_eq_true g0] at k9
      go_enter Trym.func3, Trym.ntmps3
      go_wp2_with fail
      refine k9.mono ?_
      rintro e w' ⟨rfl, rfl⟩
      clear k9
      go_wp2_with fail
      go_ret
      exact ⟨rfl, rfl⟩
  · rw [decide_eq_false g0] at k9
    go_enter Trym.func3, Trym.ntmps3
    go_wp2_with fail
    refine k9.mono ?_
    rintro e w' ⟨rfl, rfl⟩
    clear k9
    go_wp2_with fail
    go_ret
    exact ⟨rfl, rfl⟩

end Go.Proofs.Qxb6600555aMods.Word
