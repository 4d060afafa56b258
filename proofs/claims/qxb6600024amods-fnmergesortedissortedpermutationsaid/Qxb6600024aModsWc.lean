/-
  The walk of the check by runs (19).
-/
import Derived.Test.Qxb6600024aModsWa
import Derived.Deep.LoopGhost
import Derived.Deep.DeepCutAuto
import Derived.Deep.CutRange
import Derived.Deep.CutBlock
namespace Go.Proofs.Qxb6600024aMods.Mrg
open Go.RowKit
set_option linter.unusedVariables false

/-- A run that may still go on. -/
def Part (l : List Int) (v : Int) (p q : Nat) : Prop := p ≤ q ∧ q ≤ l.length ∧ ∀ t, p ≤ t → t < q → l.getD t 0 = v
theorem part_start (l : List Int) (v : Int) (p : Nat) (h : p ≤ l.length) : Part l v p p := ⟨Nat.le_refl _, h, fun t h1 h2 => by omega⟩
theorem part_step {l : List Int} {v : Int} {p q : Nat} (h : Part l v p q) (hq : q < l.length) (e : l.getD q 0 = v) : Part l v p (q + 1) := by
  refine ⟨by have := h.1; omega, by omega, fun t h1 h2 => ?_⟩
  by_cases ht : t = q
  · subst ht; exact e
  · exact h.2.2 t h1 (by omega)
theorem part_end {l : List Int} {v : Int} {p q : Nat} (h : Part l v p q) (e : q < l.length → ¬ l.getD q 0 = v) : Run l v p q := ⟨h.1, h.2.1, h.2.2, e⟩

set_option maxHeartbeats 2000000 in
set_option maxRecDepth 100000 in
theorem runs_true (ar aa ab : Option Addr) (nr cr na ca nb cb : Nat) (R A B : List Int) (w : World) (hr : nr ≤ 4194304) (ha : na ≤ 4194304) (hb : nb ≤ 4194304)
    (hR : Rd w ar nr R) (hA : Rd w aa na A) (hB : Rd w ab nb B) (uR : Up R) (uA : Up A) (uB : Up B) (hp : R.Perm (A ++ B)) :
    Calls Trym.prog 19 #[.slice ar nr cr, .slice aa na ca, .slice ab nb cb] w fun e w' => e = .returned (.bool true) ∧ w' = w := by
  obtain ⟨zR, hR⟩ := hR
  obtain ⟨zA, hA⟩ := hA
  obtain ⟨zB, hB⟩ := hB
  have HR : Hid (0 < nr → ∃ b off, ar = some ⟨b, off, none⟩ ∧ b < w.heap.size ∧ ∀ t, t < nr → w.cell? ⟨b, off + t, none⟩ = some (.int .u64 (R.getD t 0))) := hR
  have HA : Hid (0 < na → ∃ b off, aa = some ⟨b, off, none⟩ ∧ b < w.heap.size ∧ ∀ t, t < na → w.cell? ⟨b, off + t, none⟩ = some (.int .u64 (A.getD t 0))) := hA
  have HB : Hid (0 < nb → ∃ b off, ab = some ⟨b, off, none⟩ ∧ b < w.heap.size ∧ ∀ t, t < nb → w.cell? ⟨b, off + t, none⟩ = some (.int .u64 (B.getD t 0))) := hB
  have HZ : Hid (R.length = nr ∧ A.length = na ∧ B.length = nb) := ⟨zR, zA, zB⟩
  have hL := left_start hp
  clear hR hA hB zR zA zB hp
  go_enter Trym.func19, Trym.ntmps19
  go_wp2
  go_loopg [7, 8, 9] nr (fun g va vb vp wx => w = wx ∧ ∃ p ia ib : Nat, g = nr - p ∧ va = .int .i64 ia ∧ vb = .int .i64 ib ∧ vp = .int .i64 p ∧ Left R A B p ia ib)
  case atStart => exact ⟨rfl, 0, 0, 0, rfl, rfl, rfl, rfl, hL⟩
  case round =>
    obtain ⟨rfl, p, ia, ib, rfl, rfl, rfl, rfl, hl⟩ := hrel
    have l1 := hl.lp
    have l2 := hl.la
    have l3 := hl.lb
    rw [HZ.out.1] at l1
    rw [HZ.out.2.1] at l2
    rw [HZ.out.2.2] at l3
    by_cases hpr : p < nr
    · obtain ⟨bR, oR, rfl, _, hcR⟩ := HR.out (by omega)
      have HC : Hid (∀ t, t < nr → w.cell? ⟨bR, oR + t, none⟩ = some (.int .u64 (R.getD t 0))) := hcR
      obtain ⟨v, hv⟩ : ∃ v, v = R.getD p 0 := ⟨_, rfl⟩
      have c0 := hcR p hpr
      rw [← hv] at c0
      have hge := left_ge uR hl (by rw [HZ.out.1]; exact hpr)
      rw [← hv] at hge
      have HG : Hid ((∀ t, p ≤ t → t < R.length → v ≤ R.getD t 0) ∧ (∀ t, ia ≤ t → t < A.length → v ≤ A.getD t 0) ∧ (∀ t, ib ≤ t → t < B.length → v ≤ B.getD t 0)) := hge
      have HV : Hid (v = R.getD p 0) := hv
      clear hv hcR hge
      go_upto_block 2 with fail
      go_cut [11] (fun vq wx => w = wx ∧ ∃ q : Nat, vq = .int .i64 q ∧ Run R v p q)
      case first =>
        go_wp2
        go_loopg [11] (nr - p) (fun g vq wx => w = wx ∧ ∃ q : Nat, g = nr - q ∧ vq = .int .i64 q ∧ Part R v p q)
        case atStart => exact ⟨rfl, p, rfl, rfl, part_start _ _ _ hl.lp⟩
        case round =>
          obtain ⟨rfl, q, rfl, rfl, hq⟩ := hrel
          have q1 := hq.2.1
          rw [HZ.out.1] at q1
          by_cases hqr : q < nr
          · obtain ⟨y, hy⟩ : ∃ y, y = R.getD q 0 := ⟨_, rfl⟩
            have c1 := HC.out q hqr
            rw [← hy] at c1
            by_cases hyv : y = v
            · have hb : (y == v) = true := by simp [hyv]
              have hq' := part_step hq (by rw [HZ.out.1]; exact hqr) (by rw [← hy]; exact hyv)
              clear hyv hy
              go_wp2
              go_roundg (nr - (q + 1))
              case measure => omega
              case rel => exact ⟨rfl, q + 1, rfl, by go_num, hq'⟩
            · have hb : (y == v) = false := by simp [hyv]
              have hq' := part_end hq (fun _ => by rw [← hy]; exact hyv)
              clear hyv hy
              go_wp2
              go_meet
              case rel => exact ⟨rfl, q, rfl, hq'⟩
          · have hq' := part_end hq (fun h => by rw [HZ.out.1] at h; omega)
            go_wp2
            go_meet
            case rel => exact ⟨rfl, q, rfl, hq'⟩
      case rest =>
        obtain ⟨rfl, q, rfl, hq⟩ := hcut
        have q1 := hq.ql
        have q2 := hq.pq
        rw [HZ.out.1] at q1
        go_upto_region 7 with fail
        go_cut [48] (fun t wx => w = wx ∧ t = .bool false)
        case first =>
          by_cases hia : ia < na
          · obtain ⟨bA, oA, rfl, _, hcA⟩ := HA.out (by omega)
            have c1 := hcA ia hia
            have hle := HG.out.2.1 ia (by omega) (by rw [HZ.out.2.1]; exact hia)
            generalize A.getD ia 0 = y at c1 hle
            clear hcA
            go_wp2
            go_meet
            case rel => exact ⟨rfl, by rw [decide_eq_false (by omega)]⟩
          · go_wp2
            go_meet
            case rel => exact ⟨rfl, rfl⟩
        case rest =>
          obtain ⟨rfl, rfl⟩ := hcut
          go_upto_region 9 with fail
          go_cut [60] (fun t wx => w = wx ∧ t = .bool false)
          case first =>
            by_cases hib : ib < nb
            · obtain ⟨bB, oB, rfl, _, hcB⟩ := HB.out (by omega)
              have c1 := hcB ib hib
              have hle := HG.out.2.2 ib (by omega) (by rw [HZ.out.2.2]; exact hib)
              generalize B.getD ib 0 = y at c1 hle
              clear hcB
              go_wp2
              go_meet
              case rel => exact ⟨rfl, by rw [decide_eq_false (by omega)]⟩
            · go_wp2
              go_meet
              case rel => exact ⟨rfl, rfl⟩
          case rest =>
            obtain ⟨rfl, rfl⟩ := hcut
            go_upto_block 4 with fail
            go_cut [7, 12] (fun vi vc wx => w = wx ∧ ∃ j : Nat, vi = .int .i64 j ∧ vc = .int .i64 ((j : Int) - (ia : Int)) ∧ Run A v ia j)
            case first =>
              go_wp2
              go_loopg [7, 12] (na - ia) (fun g vi vc wx => w = wx ∧ ∃ j : Nat, g = na - j ∧ vi = .int .i64 j ∧ vc = .int .i64 ((j : Int) - (ia : Int)) ∧ Part A v ia j)
              case atStart => exact ⟨rfl, ia, rfl, rfl, by go_num, part_start _ _ _ hl.la⟩
              case round =>
                obtain ⟨rfl, j, rfl, rfl, rfl, hj⟩ := hrel
                have j1 := hj.2.1
                have j2 := hj.1
                rw [HZ.out.2.1] at j1
                by_cases hjr : j < na
                · obtain ⟨bA, oA, rfl, _, hcA⟩ := HA.out (by omega)
                  obtain ⟨y, hy⟩ : ∃ y, y = A.getD j 0 := ⟨_, rfl⟩
                  have c1 := hcA j hjr
                  rw [← hy] at c1
                  by_cases hyv : y = v
                  · have hb : (y == v) = true := by simp [hyv]
                    have hj' := part_step hj (by rw [HZ.out.2.1]; exact hjr) (by rw [← hy]; exact hyv)
                    clear hyv hy hcA
                    go_wp2
                    go_roundg (na - (j + 1))
                    case measure => omega
                    case rel => exact ⟨rfl, j + 1, rfl, by go_num, by go_num, hj'⟩
                  · have hb : (y == v) = false := by simp [hyv]
                    have hj' := part_end hj (fun _ => by rw [← hy]; exact hyv)
                    clear hyv hy hcA
                    go_wp2
                    go_meet
                    case rel => exact ⟨rfl, j, rfl, rfl, hj'⟩
                · have hj' := part_end hj (fun h => by rw [HZ.out.2.1] at h; omega)
                  go_wp2
                  go_meet
                  case rel => exact ⟨rfl, j, rfl, rfl, hj'⟩
            case rest =>
              obtain ⟨rfl, ja, rfl, rfl, rA⟩ := hcut
              have xA := rA.ql
              have yA := rA.pq
              rw [HZ.out.2.1] at xA
              go_upto_block 6 with fail
              go_cut [8, 13] (fun vi vc wx => w = wx ∧ ∃ j : Nat, vi = .int .i64 j ∧ vc = .int .i64 ((j : Int) - (ib : Int)) ∧ Run B v ib j)
              case first =>
                go_wp2
                go_loopg [8, 13] (nb - ib) (fun g vi vc wx => w = wx ∧ ∃ j : Nat, g = nb - j ∧ vi = .int .i64 j ∧ vc = .int .i64 ((j : Int) - (ib : Int)) ∧ Part B v ib j)
                case atStart => exact ⟨rfl, ib, rfl, rfl, by go_num, part_start _ _ _ hl.lb⟩
                case round =>
                  obtain ⟨rfl, j, rfl, rfl, rfl, hj⟩ := hrel
                  have j1 := hj.2.1
                  have j2 := hj.1
                  rw [HZ.out.2.2] at j1
                  by_cases hjr : j < nb
                  · obtain ⟨bB, oB, rfl, _, hcB⟩ := HB.out (by omega)
                    obtain ⟨y, hy⟩ : ∃ y, y = B.getD j 0 := ⟨_, rfl⟩
                    have c1 := hcB j hjr
                    rw [← hy] at c1
                    by_cases hyv : y = v
                    · have hb : (y == v) = true := by simp [hyv]
                      have hj' := part_step hj (by rw [HZ.out.2.2]; exact hjr) (by rw [← hy]; exact hyv)
                      clear hyv hy hcB
                      go_wp2
                      go_roundg (nb - (j + 1))
                      case measure => omega
                      case rel => exact ⟨rfl, j + 1, rfl, by go_num, by go_num, hj'⟩
                    · have hb : (y == v) = false := by simp [hyv]
                      have hj' := part_end hj (fun _ => by rw [← hy]; exact hyv)
                      clear hyv hy hcB
                      go_wp2
                      go_meet
                      case rel => exact ⟨rfl, j, rfl, rfl, hj'⟩
                  · have hj' := part_end hj (fun h => by rw [HZ.out.2.2] at h; omega)
                    go_wp2
                    go_meet
                    case rel => exact ⟨rfl, j, rfl, rfl, hj'⟩
              case rest =>
                obtain ⟨rfl, jb, rfl, rfl, rB⟩ := hcut
                have xB := rB.ql
                have yB := rB.pq
                rw [HZ.out.2.2] at xB
                obtain ⟨hL', hpq, hcnt⟩ := left_step uR uA uB hl (by rw [HZ.out.1]; exact hpr) (by rw [← HV.out]; exact hq) (by rw [← HV.out]; exact rA) (by rw [← HV.out]; exact rB)
                have hneq : (((q : Int) - (p : Int)) != ((ja : Int) - (ia : Int) + ((jb : Int) - (ib : Int)))) = false := by
                  have : ((q : Int) - (p : Int)) = ((ja : Int) - (ia : Int) + ((jb : Int) - (ib : Int))) := by omega
                  rw [this]; simp
                clear hcnt
                go_wp2
                go_roundg (nr - q)
                case measure => omega
                case rel => exact ⟨rfl, q, ja, jb, rfl, rfl, rfl, rfl, hL'⟩
    · have hend := left_end hl (by rw [HZ.out.1]; omega)
      rw [HZ.out.2.1, HZ.out.2.2] at hend
      obtain ⟨rfl, rfl⟩ := hend
      have e1 : ((ia : Int) == (ia : Int)) = true := by simp
      have e2 : ((ib : Int) == (ib : Int)) = true := by simp
      go_wp2
      go_ret
      exact ⟨rfl, rfl⟩

end Go.Proofs.Qxb6600024aMods.Mrg
