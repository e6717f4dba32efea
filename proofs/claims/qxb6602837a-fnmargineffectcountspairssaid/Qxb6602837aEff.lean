/- The margin's scale and effect: plain facts on doubles; gateB1Scale, marginScale, effectOfPairs. -/
import Derived.Test.Qxb6602837aCounts
namespace Go.Proofs.Qxb6602837a
open Go.RowKit Ieee
attribute [local go_sem] run_store_float

theorem twoEq : (4611686018427387904 : Nat) = fl 2 := by unfold fl W; decide
theorem oneFl : (4607182418800017408 : Nat) = fl 1 := by unfold fl W; decide

theorem sum_some {a b : Datum} (ha : ∃ s m e, a = .number s m e) (hb : b.isNaN = false) : ∃ d, a.sum b = some d := by
  obtain ⟨s, m, e, rfl⟩ := ha
  cases b with
  | nan s t => simp [Datum.isNaN] at hb
  | infinity t => exact ⟨_, rfl⟩
  | number t n j => exact ⟨_, rfl⟩

theorem sum_some' {a b : Datum} (ha : a.isNaN = false) (hb : ∃ s m e, b = .number s m e) : ∃ d, a.sum b = some d := by
  obtain ⟨s, m, e, rfl⟩ := hb
  cases a with
  | nan s t => simp [Datum.isNaN] at ha
  | infinity t => exact ⟨_, rfl⟩
  | number t n j => exact ⟨_, rfl⟩

theorem opposite_notNaN {d : Datum} (h : d.isNaN = false) : d.opposite.isNaN = false := by
  cases d <;> simp_all [Datum.isNaN, Datum.opposite]

theorem one_number : ∃ s m e, double.read 4607182418800017408 = .number s m e := ⟨false, 2 ^ 52, -52, by decide⟩
theorem half_number : ∃ s m e, double.read 4602678819172646912 = .number s m e := ⟨false, 2 ^ 52, -53, by decide⟩

theorem one_add {x : Nat} (h : num x) : ∃ r, double.add 4607182418800017408 x = some r := by
  obtain ⟨d, hd⟩ := sum_some one_number h
  exact ⟨_, by unfold Format.add; rw [hd]; rfl⟩
theorem one_sub {x : Nat} (h : num x) : ∃ r, double.sub 4607182418800017408 x = some r := by
  obtain ⟨d, hd⟩ := sum_some one_number (opposite_notNaN h)
  exact ⟨_, by unfold Format.sub; rw [hd]; rfl⟩
theorem half_sub {x : Nat} (h : num x) : ∃ r, double.sub 4602678819172646912 x = some r := by
  obtain ⟨d, hd⟩ := sum_some half_number (opposite_notNaN h)
  exact ⟨_, by unfold Format.sub; rw [hd]; rfl⟩
theorem sub_half {x : Nat} (h : num x) : ∃ r, double.sub x 4602678819172646912 = some r := by
  obtain ⟨s, m, e, hh⟩ := half_number
  obtain ⟨d, hd⟩ := sum_some' (b := (double.read 4602678819172646912).opposite) h ⟨!s, m, e, by rw [hh]; rfl⟩
  exact ⟨_, by unfold Format.sub; rw [hd]; rfl⟩

/-- A whole number by a whole number that is not nought. -/
theorem div_fl (a d : Nat) (ha : a < 2 ^ 53) (hd : d < 2 ^ 53) (h0 : d ≠ 0) : ∃ r, double.div (fl a) (fl d) = some r ∧ num r := by
  obtain ⟨k, hk⟩ := read_int a ha
  obtain ⟨l, hl⟩ := read_int d hd
  have hne : d * 2 ^ l ≠ 0 := by
    have := Nat.mul_pos (Nat.pos_of_ne_zero h0) (Nat.two_pow_pos l)
    omega
  unfold fl Format.div
  rw [hk, hl]
  simp only [Datum.quotient, if_neg hne, Option.map_some]
  exact ⟨_, rfl, num_write _ rfl⟩

/-- 1 - margin, or 1 + margin. -/
def scaleOf (liw : Bool) (mg : Nat) : Nat := ((if liw then double.sub 4607182418800017408 mg else double.add 4607182418800017408 mg)).getD 0

theorem run_add_some {P : Program} {s x p : Nat} (h : double.add s x = some p) (t : TypeId) (w : World) : (binOp .add t (.float .f64 s) (.float .f64 x)).run P w = .ok (.float .f64 p) w :=
  run_float_arith w .add t .f64 s x p h
theorem run_sub_some {P : Program} {s x p : Nat} (h : double.sub s x = some p) (t : TypeId) (w : World) : (binOp .sub t (.float .f64 s) (.float .f64 x)).run P w = .ok (.float .f64 p) w :=
  run_float_arith w .sub t .f64 s x p h
theorem run_div_some {P : Program} {s x p : Nat} (h : double.div s x = some p) (t : TypeId) (w : World) : (binOp .quo t (.float .f64 s) (.float .f64 x)).run P w = .ok (.float .f64 p) w :=
  run_float_arith w .quo t .f64 s x p h

theorem scale_sub {P : Program} {mg : Nat} (h : num mg) (t : TypeId) (w : World) : (binOp .sub t (.float .f64 4607182418800017408) (.float .f64 mg)).run P w = .ok (.float .f64 (scaleOf true mg)) w := by
  obtain ⟨r, hr⟩ := one_sub h
  have e : scaleOf true mg = r := by simp [scaleOf, hr]
  rw [e]; exact run_sub_some hr t w
theorem scale_add {P : Program} {mg : Nat} (h : num mg) (t : TypeId) (w : World) : (binOp .add t (.float .f64 4607182418800017408) (.float .f64 mg)).run P w = .ok (.float .f64 (scaleOf false mg)) w := by
  obtain ⟨r, hr⟩ := one_add h
  have e : scaleOf false mg = r := by simp [scaleOf, hr]
  rw [e]; exact run_add_some hr t w

def FPost (x : Nat) (w : World) (e : Ending) (w' : World) : Prop := e = .returned (.float .f64 x) ∧ w' = w

set_option maxHeartbeats 400000 in
theorem scale_any (liw : Bool) (mg : Nat) (w : World) (h : num mg) : Calls Try.prog 16 #[.bool liw, .float .f64 mg] w fun e w' => FPost (scaleOf liw mg) w e w' := by
  have h1 := scale_sub (P := Try.prog) h
  have h2 := scale_add (P := Try.prog) h
  cases liw
  all_goals
    go_enter Try.func16, Try.ntmps16
    go_wp2
    go_ret
    exact ⟨rfl, rfl⟩

/-- It answers this double; nothing that was there has turned. -/
def FbPost (x : Nat) (w : World) (e : Ending) (w' : World) : Prop := e = .returned (.float .f64 x) ∧ Below w.heap.size w w'

set_option maxHeartbeats 400000 in
theorem marginScale_any (mn : Int) (lv mi : Nat) (liw rt : Bool) (mr mg ms : Nat) (w : World) (h : num mg) :
    Calls Try.prog 24 #[.agg #[.int .i64 mn, .float .f64 lv, .float .f64 mi, .bool liw, .bool rt, .float .f64 mr, .float .f64 mg, .float .f64 ms]] w fun e w' => FbPost (scaleOf liw mg) w e w' := by
  have h1 := scale_sub (P := Try.prog) h
  have h2 := scale_add (P := Try.prog) h
  cases liw
  all_goals
    go_enter Try.func24, Try.ntmps24
    go_wp2
    go_ret
    exact ⟨rfl, (Below.refl _ _).alloc (Nat.le_refl _) _⟩

/-- above - 1/2, or 1/2 - above. -/
def effB (liw : Bool) (a d : Nat) : Nat := (if liw then double.sub ((double.div (fl a) (fl d)).getD 0) 4602678819172646912 else double.sub 4602678819172646912 ((double.div (fl a) (fl d)).getD 0)).getD 0

/-- The quotient, by a name of its own, and the two ways on from it. -/
theorem eff_runs {P : Program} (a d : Nat) (ha : a < 2 ^ 53) (hd : d < 2 ^ 53) (h0 : d ≠ 0) : ∃ r, (∀ t w, (binOp .quo t (.float .f64 (fl a)) (.float .f64 (fl d))).run P w = .ok (.float .f64 r) w) ∧
    (∀ t w, (binOp .sub t (.float .f64 r) (.float .f64 4602678819172646912)).run P w = .ok (.float .f64 (effB true a d)) w) ∧
    (∀ t w, (binOp .sub t (.float .f64 4602678819172646912) (.float .f64 r)).run P w = .ok (.float .f64 (effB false a d)) w) ∧ ∀ liw, num (effB liw a d) := by
  obtain ⟨r, hr, nr⟩ := div_fl a d ha hd h0
  obtain ⟨r1, h1⟩ := sub_half nr
  obtain ⟨r2, h2⟩ := half_sub nr
  have e1 : effB true a d = r1 := by simp [effB, hr, h1]
  have e2 : effB false a d = r2 := by simp [effB, hr, h2]
  refine ⟨r, fun t w => run_div_some hr t w, fun t w => by rw [e1]; exact run_sub_some h1 t w, fun t w => by rw [e2]; exact run_sub_some h2 t w, fun liw => ?_⟩
  cases liw
  · rw [e2]; exact sub_num h2
  · rw [e1]; exact sub_num h1

theorem small_d {n : Nat} (h2 : 2 ≤ n) (hn : n ≤ 4096) : 2 * n * (n - 1) < 2 ^ 53 ∧ 2 * n * (n - 1) ≠ 0 ∧ 2 * n * (n - 1) ≤ 33554432 := by
  have h1 : 2 * n * (n - 1) ≤ 2 * 4096 * 4096 := Nat.mul_le_mul (by omega) (by omega)
  have h3 : 4 * 1 ≤ 2 * n * (n - 1) := Nat.mul_le_mul (by omega) (by omega)
  omega

set_option maxHeartbeats 400000 in
theorem effect_any (mn : Int) (lv mi : Nat) (liw rt : Bool) (mr mg ms : Nat) (a n : Nat) (w : World) (h2 : 2 ≤ n) (hn : n ≤ 4096) (ha : a < 2 ^ 53) :
    Calls Try.prog 25 #[.agg #[.int .i64 mn, .float .f64 lv, .float .f64 mi, .bool liw, .bool rt, .float .f64 mr, .float .f64 mg, .float .f64 ms], .float .f64 (fl a), .int .i64 n] w
      fun e w' => FbPost (effB liw a (2 * n * (n - 1))) w e w' := by
  obtain ⟨d1, d2, _⟩ := small_d h2 hn
  obtain ⟨r, q1, q2, q3, _⟩ := eff_runs (P := Try.prog) a (2 * n * (n - 1)) ha d1 d2
  have m1 : ∀ t w, (binOp .mul t (.float .f64 4611686018427387904) (.float .f64 (floatOfInt .f64 (n : Int)))).run Try.prog w = .ok (.float .f64 (fl (2 * n))) w := by
    intro t w
    rw [twoEq, fl_of]
    exact run_mul_fl (by omega) (by omega) (by omega) t w
  have m2 : ∀ t w, (binOp .mul t (.float .f64 (fl (2 * n))) (.float .f64 (floatOfInt .f64 ((n : Int) - 1)))).run Try.prog w = .ok (.float .f64 (fl (2 * n * (n - 1)))) w := by
    intro t w
    rw [show ((n : Int) - 1) = ((n - 1 : Nat) : Int) by omega, fl_of]
    exact run_mul_fl (by omega) (by omega) d1 t w
  cases liw
  all_goals
    go_enter Try.func25, Try.ntmps25
    go_wp2
    go_ret
    exact ⟨rfl, (Below.refl _ _).alloc (Nat.le_refl _) _⟩
end Go.Proofs.Qxb6602837a
