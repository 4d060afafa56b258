/-
  The walks over doubles: is z in range (14); 'confidentInDoubles' (17) and its exported twin (13).
-/
import Derived.Test.Qxb6600555aModsDblW
import Derived.Test.Qxb6600555aModsDblE
namespace Go.Proofs.Qxb6600555aMods.Dbl
open Go.RowKit
set_option linter.unusedVariables false

set_option maxHeartbeats 400000 in
theorem range_zero (z : Nat) (w : World) (h0 : (FloatKind.f64.format.order z 0 == some .eq) = true) :
    Calls Trym.prog 14 #[.float .f64 z] w fun e w' => e = .returned (.bool true) ∧ w = w' := by
  go_enter Trym.func14, Trym.ntmps14
  go_wp2
  go_ret
  exact ⟨rfl, rfl⟩

set_option maxHeartbeats 400000 in
theorem range_in (z : Nat) (w : World) (h0 : (FloatKind.f64.format.order z 0 == some .eq) = false)
    (h1 : (FloatKind.f64.format.order z 2805742567851819008 == some .gt || FloatKind.f64.format.order z 2805742567851819008 == some .eq) = true)
    (h2 : (FloatKind.f64.format.order z 6408622269748215808 == some .lt || FloatKind.f64.format.order z 6408622269748215808 == some .eq) = true) :
    Calls Trym.prog 14 #[.float .f64 z] w fun e w' => e = .returned (.bool true) ∧ w = w' := by
  go_enter Trym.func14, Trym.ntmps14
  go_wp2
  go_ret
  exact ⟨rfl, rfl⟩

set_option maxHeartbeats 400000 in
theorem range_lo (z : Nat) (w : World) (h0 : (FloatKind.f64.format.order z 0 == some .eq) = false)
    (h1 : (FloatKind.f64.format.order z 2805742567851819008 == some .gt || FloatKind.f64.format.order z 2805742567851819008 == some .eq) = false) :
    Calls Trym.prog 14 #[.float .f64 z] w fun e w' => e = .returned (.bool false) ∧ w = w' := by
  go_enter Trym.func14, Trym.ntmps14
  go_wp2
  go_ret
  exact ⟨rfl, rfl⟩

set_option maxHeartbeats 400000 in
theorem range_hi (z : Nat) (w : World) (h0 : (FloatKind.f64.format.order z 0 == some .eq) = false)
    (h1 : (FloatKind.f64.format.order z 2805742567851819008 == some .gt || FloatKind.f64.format.order z 2805742567851819008 == some .eq) = true)
    (h2 : (FloatKind.f64.format.order z 6408622269748215808 == some .lt || FloatKind.f64.format.order z 6408622269748215808 == some .eq) = false) :
    Calls Trym.prog 14 #[.float .f64 z] w fun e w' => e = .returned (.bool false) ∧ w = w' := by
  go_enter Trym.func14, Trym.ntmps14
  go_wp2
  go_ret
  exact ⟨rfl, rfl⟩

set_option maxHeartbeats 400000 in
theorem conf_lo (m n : Int) (z : Nat) (w : World) (h0 : (FloatKind.f64.format.order z 0 != some .eq) = true) (h1 : (FloatKind.f64.format.order z 2805742567851819008 == some .lt) = true) :
    Calls Trym.prog 17 #[.int .i64 m, .int .i64 n, .float .f64 z] w fun e w' => e = .returned (.tuple #[.bool false, .bool false]) ∧ w = w' := by
  go_enter Trym.func17, Trym.ntmps17
  go_wp2
  go_ret2
  exact ⟨rfl, rfl⟩

set_option maxHeartbeats 400000 in
theorem conf_hi (m n : Int) (z : Nat) (w : World) (h0 : (FloatKind.f64.format.order z 0 != some .eq) = true) (h1 : (FloatKind.f64.format.order z 2805742567851819008 == some .lt) = false) (h2 : (FloatKind.f64.format.order z 6408622269748215808 == some .gt) = true) :
    Calls Trym.prog 17 #[.int .i64 m, .int .i64 n, .float .f64 z] w fun e w' => e = .returned (.tuple #[.bool false, .bool false]) ∧ w = w' := by
  go_enter Trym.func17, Trym.ntmps17
  go_wp2
  go_ret2
  exact ⟨rfl, rfl⟩


set_option maxHeartbeats 1000000 in
theorem conf_z_yes (m n z vz D Nf Mf Kf l1 l z4 r1 r2 r t1 t2 : Nat) (w : World) (C : Comp m n z vz D Nf Mf Kf l1 l z4 r1 r2 r t1 t2) (hn : n < 1073741824) (hm : m ≤ n) (h2m : n < 2 * m) (h0 : (FloatKind.f64.format.order z 0 != some .eq) = false) (o1 : (FloatKind.f64.format.order l t1 == some .gt) = true) :
    Calls Trym.prog 17 #[.int .i64 m, .int .i64 n, .float .f64 z] w fun e w' => e = .returned (.tuple #[.bool true, .bool true]) ∧ w = w' := by
  have eD := C.eD
  have eN := C.eN
  have eM := C.eM
  have eK := C.eK
  have k1 := run_mul C.el1
  have k2 := run_mul C.el
  have k3 : ∀ w, (binOp .mul 27 (.float .f64 4616189618054758400) (.float .f64 z)).run Trym.prog w = .ok (.float .f64 z4) w := run_mul C.ez4
  have k4 := run_mul C.er1
  have k5 := run_mul C.er2
  have k6 := run_mul C.er
  have k7 : ∀ w, (binOp .mul 27 (.float .f64 r) (.float .f64 4607182418800021504)).run Trym.prog w = .ok (.float .f64 t1) w := run_mul C.et1
  have k8 : ∀ w, (binOp .mul 27 (.float .f64 r) (.float .f64 4607182418800009216)).run Trym.prog w = .ok (.float .f64 t2) w := run_mul C.et2
  clear C
  go_enter Trym.func17, Trym.ntmps17
  go_wp2
  go_ret2
  exact ⟨rfl, rfl⟩

set_option maxHeartbeats 1000000 in
theorem conf_z_no (m n z vz D Nf Mf Kf l1 l z4 r1 r2 r t1 t2 : Nat) (w : World) (C : Comp m n z vz D Nf Mf Kf l1 l z4 r1 r2 r t1 t2) (hn : n < 1073741824) (hm : m ≤ n) (h2m : n < 2 * m) (h0 : (FloatKind.f64.format.order z 0 != some .eq) = false) (o1 : (FloatKind.f64.format.order l t1 == some .gt) = false) (o2 : (FloatKind.f64.format.order l t2 == some .lt) = true) :
    Calls Trym.prog 17 #[.int .i64 m, .int .i64 n, .float .f64 z] w fun e w' => e = .returned (.tuple #[.bool false, .bool true]) ∧ w = w' := by
  have eD := C.eD
  have eN := C.eN
  have eM := C.eM
  have eK := C.eK
  have k1 := run_mul C.el1
  have k2 := run_mul C.el
  have k3 : ∀ w, (binOp .mul 27 (.float .f64 4616189618054758400) (.float .f64 z)).run Trym.prog w = .ok (.float .f64 z4) w := run_mul C.ez4
  have k4 := run_mul C.er1
  have k5 := run_mul C.er2
  have k6 := run_mul C.er
  have k7 : ∀ w, (binOp .mul 27 (.float .f64 r) (.float .f64 4607182418800021504)).run Trym.prog w = .ok (.float .f64 t1) w := run_mul C.et1
  have k8 : ∀ w, (binOp .mul 27 (.float .f64 r) (.float .f64 4607182418800009216)).run Trym.prog w = .ok (.float .f64 t2) w := run_mul C.et2
  clear C
  go_enter Trym.func17, Trym.ntmps17
  go_wp2
  go_ret2
  exact ⟨rfl, rfl⟩

set_option maxHeartbeats 1000000 in
theorem conf_z_un (m n z vz D Nf Mf Kf l1 l z4 r1 r2 r t1 t2 : Nat) (w : World) (C : Comp m n z vz D Nf Mf Kf l1 l z4 r1 r2 r t1 t2) (hn : n < 1073741824) (hm : m ≤ n) (h2m : n < 2 * m) (h0 : (FloatKind.f64.format.order z 0 != some .eq) = false) (o1 : (FloatKind.f64.format.order l t1 == some .gt) = false) (o2 : (FloatKind.f64.format.order l t2 == some .lt) = false) :
    Calls Trym.prog 17 #[.int .i64 m, .int .i64 n, .float .f64 z] w fun e w' => e = .returned (.tuple #[.bool false, .bool false]) ∧ w = w' := by
  have eD := C.eD
  have eN := C.eN
  have eM := C.eM
  have eK := C.eK
  have k1 := run_mul C.el1
  have k2 := run_mul C.el
  have k3 : ∀ w, (binOp .mul 27 (.float .f64 4616189618054758400) (.float .f64 z)).run Trym.prog w = .ok (.float .f64 z4) w := run_mul C.ez4
  have k4 := run_mul C.er1
  have k5 := run_mul C.er2
  have k6 := run_mul C.er
  have k7 : ∀ w, (binOp .mul 27 (.float .f64 r) (.float .f64 4607182418800021504)).run Trym.prog w = .ok (.float .f64 t1) w := run_mul C.et1
  have k8 : ∀ w, (binOp .mul 27 (.float .f64 r) (.float .f64 4607182418800009216)).run Trym.prog w = .ok (.float .f64 t2) w := run_mul C.et2
  clear C
  go_enter Trym.func17, Trym.ntmps17
  go_wp2
  go_ret2
  exact ⟨rfl, rfl⟩

set_option maxHeartbeats 1000000 in
theorem conf_r_yes (m n z vz D Nf Mf Kf l1 l z4 r1 r2 r t1 t2 : Nat) (w : World) (C : Comp m n z vz D Nf Mf Kf l1 l z4 r1 r2 r t1 t2) (hn : n < 1073741824) (hm : m ≤ n) (h2m : n < 2 * m) (h0 : (FloatKind.f64.format.order z 0 != some .eq) = true) (g1 : (FloatKind.f64.format.order z 2805742567851819008 == some .lt) = false) (g2 : (FloatKind.f64.format.order z 6408622269748215808 == some .gt) = false) (o1 : (FloatKind.f64.format.order l t1 == some .gt) = true) :
    Calls Trym.prog 17 #[.int .i64 m, .int .i64 n, .float .f64 z] w fun e w' => e = .returned (.tuple #[.bool true, .bool true]) ∧ w = w' := by
  have eD := C.eD
  have eN := C.eN
  have eM := C.eM
  have eK := C.eK
  have k1 := run_mul C.el1
  have k2 := run_mul C.el
  have k3 : ∀ w, (binOp .mul 27 (.float .f64 4616189618054758400) (.float .f64 z)).run Trym.prog w = .ok (.float .f64 z4) w := run_mul C.ez4
  have k4 := run_mul C.er1
  have k5 := run_mul C.er2
  have k6 := run_mul C.er
  have k7 : ∀ w, (binOp .mul 27 (.float .f64 r) (.float .f64 4607182418800021504)).run Trym.prog w = .ok (.float .f64 t1) w := run_mul C.et1
  have k8 : ∀ w, (binOp .mul 27 (.float .f64 r) (.float .f64 4607182418800009216)).run Trym.prog w = .ok (.float .f64 t2) w := run_mul C.et2
  clear C
  go_enter Trym.func17, Trym.ntmps17
  go_wp2
  go_ret2
  exact ⟨rfl, rfl⟩

set_option maxHeartbeats 1000000 in
theorem conf_r_no (m n z vz D Nf Mf Kf l1 l z4 r1 r2 r t1 t2 : Nat) (w : World) (C : Comp m n z vz D Nf Mf Kf l1 l z4 r1 r2 r t1 t2) (hn : n < 1073741824) (hm : m ≤ n) (h2m : n < 2 * m) (h0 : (FloatKind.f64.format.order z 0 != some .eq) = true) (g1 : (FloatKind.f64.format.order z 2805742567851819008 == some .lt) = false) (g2 : (FloatKind.f64.format.order z 6408622269748215808 == some .gt) = false) (o1 : (FloatKind.f64.format.order l t1 == some .gt) = false) (o2 : (FloatKind.f64.format.order l t2 == some .lt) = true) :
    Calls Trym.prog 17 #[.int .i64 m, .int .i64 n, .float .f64 z] w fun e w' => e = .returned (.tuple #[.bool false, .bool true]) ∧ w = w' := by
  have eD := C.eD
  have eN := C.eN
  have eM := C.eM
  have eK := C.eK
  have k1 := run_mul C.el1
  have k2 := run_mul C.el
  have k3 : ∀ w, (binOp .mul 27 (.float .f64 4616189618054758400) (.float .f64 z)).run Trym.prog w = .ok (.float .f64 z4) w := run_mul C.ez4
  have k4 := run_mul C.er1
  have k5 := run_mul C.er2
  have k6 := run_mul C.er
  have k7 : ∀ w, (binOp .mul 27 (.float .f64 r) (.float .f64 4607182418800021504)).run Trym.prog w = .ok (.float .f64 t1) w := run_mul C.et1
  have k8 : ∀ w, (binOp .mul 27 (.float .f64 r) (.float .f64 4607182418800009216)).run Trym.prog w = .ok (.float .f64 t2) w := run_mul C.et2
  clear C
  go_enter Trym.func17, Trym.ntmps17
  go_wp2
  go_ret2
  exact ⟨rfl, rfl⟩

set_option maxHeartbeats 1000000 in
theorem conf_r_un (m n z vz D Nf Mf Kf l1 l z4 r1 r2 r t1 t2 : Nat) (w : World) (C : Comp m n z vz D Nf Mf Kf l1 l z4 r1 r2 r t1 t2) (hn : n < 1073741824) (hm : m ≤ n) (h2m : n < 2 * m) (h0 : (FloatKind.f64.format.order z 0 != some .eq) = true) (g1 : (FloatKind.f64.format.order z 2805742567851819008 == some .lt) = false) (g2 : (FloatKind.f64.format.order z 6408622269748215808 == some .gt) = false) (o1 : (FloatKind.f64.format.order l t1 == some .gt) = false) (o2 : (FloatKind.f64.format.order l t2 == some .lt) = false) :
    Calls Trym.prog 17 #[.int .i64 m, .int .i64 n, .float .f64 z] w fun e w' => e = .returned (.tuple #[.bool false, .bool false]) ∧ w = w' := by
  have eD := C.eD
  have eN := C.eN
  have eM := C.eM
  have eK := C.eK
  have k1 := run_mul C.el1
  have k2 := run_mul C.el
  have k3 : ∀ w, (binOp .mul 27 (.float .f64 4616189618054758400) (.float .f64 z)).run Trym.prog w = .ok (.float .f64 z4) w := run_mul C.ez4
  have k4 := run_mul C.er1
  have k5 := run_mul C.er2
  have k6 := run_mul C.er
  have k7 : ∀ w, (binOp .mul 27 (.float .f64 r) (.float .f64 4607182418800021504)).run Trym.prog w = .ok (.float .f64 t1) w := run_mul C.et1
  have k8 : ∀ w, (binOp .mul 27 (.float .f64 r) (.float .f64 4607182418800009216)).run Trym.prog w = .ok (.float .f64 t2) w := run_mul C.et2
  clear C
  go_enter Trym.func17, Trym.ntmps17
  go_wp2
  go_ret2
  exact ⟨rfl, rfl⟩

theorem ord_gt (x y : Nat) (hx : x < 2047 * 2 ^ 52) (hy : y < 2047 * 2 ^ 52) : (FloatKind.f64.format.order x y == some .gt) = decide (V y < V x) := by
  rcases Nat.lt_trichotomy (V x) (V y) with h | h | h
  · have e : FloatKind.f64.format.order x y = some .lt := order_lt x y hx hy h
    rw [e, decide_eq_false (by omega)]; rfl
  · have e : FloatKind.f64.format.order x y = some .eq := order_eq x y hx hy h
    rw [e, decide_eq_false (by omega)]; rfl
  · have e : FloatKind.f64.format.order x y = some .gt := order_gt x y hx hy h
    rw [e, decide_eq_true h]; rfl
theorem ord_lt (x y : Nat) (hx : x < 2047 * 2 ^ 52) (hy : y < 2047 * 2 ^ 52) : (FloatKind.f64.format.order x y == some .lt) = decide (V x < V y) := by
  rcases Nat.lt_trichotomy (V x) (V y) with h | h | h
  · have e : FloatKind.f64.format.order x y = some .lt := order_lt x y hx hy h
    rw [e, decide_eq_true h]; rfl
  · have e : FloatKind.f64.format.order x y = some .eq := order_eq x y hx hy h
    rw [e, decide_eq_false (by omega)]; rfl
  · have e : FloatKind.f64.format.order x y = some .gt := order_gt x y hx hy h
    rw [e, decide_eq_false (by omega)]; rfl

/-- What the answer means: sure and confident, sure and not, not sure. -/
def Ans (X Y : Nat) (c s : Bool) : Prop :=
  (c = true → s = true) ∧ (s = true → (c = true ∧ Y < X) ∨ (c = false ∧ X < Y)) ∧ (1073741825 * Y < 1073741824 * X → s = true ∧ c = true) ∧ (1073741825 * X < 1073741824 * Y → s = true ∧ c = false)

theorem ans_yes {vl vt1 vt2 X Y T : Nat} (h : Near vl vt1 vt2 X Y T) (hlt : vt1 < vl) : Ans X Y true true := by
  have hs := sure_yes h hlt
  exact ⟨fun _ => rfl, fun _ => .inl ⟨rfl, hs⟩, fun _ => ⟨rfl, rfl⟩, fun h => by omega⟩
theorem ans_no {vl vt1 vt2 X Y T : Nat} (h : Near vl vt1 vt2 X Y T) (hlt : vl < vt2) : Ans X Y false true := by
  have hs := sure_no h hlt
  exact ⟨(fun h => by cases h), fun _ => .inr ⟨rfl, hs⟩, fun h => by omega, fun _ => ⟨rfl, rfl⟩⟩
theorem ans_un {vl vt1 vt2 X Y T : Nat} (h : Near vl vt1 vt2 X Y T) (h1 : ¬ vt1 < vl) (h2 : ¬ vl < vt2) : Ans X Y false false :=
  ⟨(fun h => by cases h), (fun h => by cases h), fun hg => absurd (must_yes h hg) h1, fun hg => absurd (must_no h hg) h2⟩

theorem conf_z (m n z vz D Nf Mf Kf l1 l z4 r1 r2 r t1 t2 : Nat) (w : World) (C : Comp m n z vz D Nf Mf Kf l1 l z4 r1 r2 r t1 t2) (hn : n < 1073741824) (hm : m ≤ n) (h2m : n < 2 * m) (h0 : (FloatKind.f64.format.order z 0 != some .eq) = false) :
    Calls Trym.prog 17 #[.int .i64 m, .int .i64 n, .float .f64 z] w fun e w' => ∃ c s : Bool, e = .returned (.tuple #[.bool c, .bool s]) ∧ w = w' ∧ Ans (LX m n) (RY m n vz) c s := by
  by_cases h1 : V t1 < V l
  · exact (conf_z_yes m n z vz D Nf Mf Kf l1 l z4 r1 r2 r t1 t2 w C hn hm h2m h0 (by rw [ord_gt l t1 C.fl C.ft1]; exact decide_eq_true h1)).mono fun e w' ⟨he, hw⟩ => ⟨_, _, he, hw, ans_yes C.near h1⟩
  · by_cases h2 : V l < V t2
    · exact (conf_z_no m n z vz D Nf Mf Kf l1 l z4 r1 r2 r t1 t2 w C hn hm h2m h0 (by rw [ord_gt l t1 C.fl C.ft1]; exact decide_eq_false h1) (by rw [ord_lt l t2 C.fl C.ft2]; exact decide_eq_true h2)).mono fun e w' ⟨he, hw⟩ => ⟨_, _, he, hw, ans_no C.near h2⟩
    · exact (conf_z_un m n z vz D Nf Mf Kf l1 l z4 r1 r2 r t1 t2 w C hn hm h2m h0 (by rw [ord_gt l t1 C.fl C.ft1]; exact decide_eq_false h1) (by rw [ord_lt l t2 C.fl C.ft2]; exact decide_eq_false h2)).mono fun e w' ⟨he, hw⟩ => ⟨_, _, he, hw, ans_un C.near h1 h2⟩

theorem conf_r (m n z vz D Nf Mf Kf l1 l z4 r1 r2 r t1 t2 : Nat) (w : World) (C : Comp m n z vz D Nf Mf Kf l1 l z4 r1 r2 r t1 t2) (hn : n < 1073741824) (hm : m ≤ n) (h2m : n < 2 * m) (h0 : (FloatKind.f64.format.order z 0 != some .eq) = true) (g1 : (FloatKind.f64.format.order z 2805742567851819008 == some .lt) = false) (g2 : (FloatKind.f64.format.order z 6408622269748215808 == some .gt) = false) :
    Calls Trym.prog 17 #[.int .i64 m, .int .i64 n, .float .f64 z] w fun e w' => ∃ c s : Bool, e = .returned (.tuple #[.bool c, .bool s]) ∧ w = w' ∧ Ans (LX m n) (RY m n vz) c s := by
  by_cases h1 : V t1 < V l
  · exact (conf_r_yes m n z vz D Nf Mf Kf l1 l z4 r1 r2 r t1 t2 w C hn hm h2m h0 g1 g2 (by rw [ord_gt l t1 C.fl C.ft1]; exact decide_eq_true h1)).mono fun e w' ⟨he, hw⟩ => ⟨_, _, he, hw, ans_yes C.near h1⟩
  · by_cases h2 : V l < V t2
    · exact (conf_r_no m n z vz D Nf Mf Kf l1 l z4 r1 r2 r t1 t2 w C hn hm h2m h0 g1 g2 (by rw [ord_gt l t1 C.fl C.ft1]; exact decide_eq_false h1) (by rw [ord_lt l t2 C.fl C.ft2]; exact decide_eq_true h2)).mono fun e w' ⟨he, hw⟩ => ⟨_, _, he, hw, ans_no C.near h2⟩
    · exact (conf_r_un m n z vz D Nf Mf Kf l1 l z4 r1 r2 r t1 t2 w C hn hm h2m h0 g1 g2 (by rw [ord_gt l t1 C.fl C.ft1]; exact decide_eq_false h1) (by rw [ord_lt l t2 C.fl C.ft2]; exact decide_eq_false h2)).mono fun e w' ⟨he, hw⟩ => ⟨_, _, he, hw, ans_un C.near h1 h2⟩

end Go.Proofs.Qxb6600555aMods.Dbl
