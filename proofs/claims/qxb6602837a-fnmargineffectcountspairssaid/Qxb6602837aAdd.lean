/- (*rankSums).add. -/
import Derived.Test.Qxb6602837aCopy
namespace Go.Proofs.Qxb6602837a
open Go.RowKit
attribute [local go_sem] run_store_float

/-- The double of a whole number, behind a name of its own. -/
def fl (n : Nat) : Nat := W n

theorem fl_of (n : Nat) : floatOfInt .f64 (n : Int) = fl n := fl_W n
theorem num_fl (n : Nat) : num (fl n) := num_W n

theorem run_mul_fl {P : Program} {a b : Nat} (ha : a < 2 ^ 53) (hb : b < 2 ^ 53) (h : a * b < 2 ^ 53) (t : TypeId) (w : World) : (binOp .mul t (.float .f64 (fl a)) (.float .f64 (fl b))).run P w = .ok (.float .f64 (fl (a * b))) w :=
  run_float_arith w .mul t .f64 _ _ _ (mul_W a b ha hb h)
theorem run_add_fl {P : Program} {a b : Nat} (h : a + b < 2 ^ 53) (t : TypeId) (w : World) : (binOp .add t (.float .f64 (fl a)) (.float .f64 (fl b))).run P w = .ok (.float .f64 (fl (a + b))) w :=
  run_float_arith w .add t .f64 _ _ _ (add_W a b h)
theorem run_sub_fl {P : Program} {a b : Nat} (ha : a < 2 ^ 53) (h : b ≤ a) (t : TypeId) (w : World) : (binOp .sub t (.float .f64 (fl a)) (.float .f64 (fl b))).run P w = .ok (.float .f64 (fl (a - b))) w :=
  run_float_arith w .sub t .f64 _ _ _ (sub_W a b ha h)

/-- The struct's four cells. -/
def rk (U T s cb : Nat) : Nat → Value := fun i => if i = 0 then .float .f64 (fl U) else if i = 1 then .float .f64 (fl T) else if i = 2 then .int .i64 s else .int .i64 cb

theorem three : (4613937818241073152 : Nat) = fl 3 := by
  unfold fl W
  decide

def AddPost (B U T s cb tx ty : Nat) (w : World) (e : Ending) (w' : World) : Prop :=
  e = .returned (.tuple #[]) ∧ w'.rowIs B 41 4 (rk (U + ty * (2 * cb + tx)) (T + 3 * s * (tx + ty) * (s + (tx + ty))) (s + (tx + ty)) (cb + tx)) ∧ Below B w w'

set_option maxHeartbeats 1000000 in
theorem add_any (B U T s cb tx ty : Nat) (w : World) (h : w.rowIs B 41 4 (rk U T s cb)) (h1 : s + (tx + ty) ≤ 8192) (h2 : cb + tx ≤ 4096) (h3 : ty ≤ 4096) (h4 : U + ty * (2 * cb + tx) < 2 ^ 53)
    (h5 : T + 3 * s * (tx + ty) * (s + (tx + ty)) < 2 ^ 53) (h6 : 3 * s * (tx + ty) < 2 ^ 53) :
    Calls Try.prog 23 #[.pointer (some ⟨B, 0, none⟩), .int .i64 tx, .int .i64 ty] w fun e w' => AddPost B U T s cb tx ty w e w' := by
  have c0 : w.cell? ⟨B, 0, none⟩ = some (.float .f64 (fl U)) := h.cell (i := 0) (by omega)
  have c1 : w.cell? ⟨B, 1, none⟩ = some (.float .f64 (fl T)) := h.cell (i := 1) (by omega)
  have c2 : w.cell? ⟨B, 2, none⟩ = some (.int .i64 s) := h.cell (i := 2) (by omega)
  have c3 : w.cell? ⟨B, 3, none⟩ = some (.int .i64 cb) := h.cell (i := 3) (by omega)
  have f0 := h.frozen 0
  have f1 := h.frozen 1
  have f2 := h.frozen 2
  have f3 := h.frozen 3
  have m1 : ∀ t w, (binOp .mul t (.float .f64 (floatOfInt .f64 (ty : Int))) (.float .f64 (floatOfInt .f64 (2 * (cb : Int) + (tx : Int))))).run Try.prog w = .ok (.float .f64 (fl (ty * (2 * cb + tx)))) w := by
    intro t w
    rw [show (2 * (cb : Int) + (tx : Int)) = ((2 * cb + tx : Nat) : Int) by omega, fl_of, fl_of]
    exact run_mul_fl (by omega) (by omega) (by omega) t w
  have a1 := run_add_fl (P := Try.prog) h4
  have m2 : ∀ t w, (binOp .mul t (.float .f64 4613937818241073152) (.float .f64 (floatOfInt .f64 (s : Int)))).run Try.prog w = .ok (.float .f64 (fl (3 * s))) w := by
    intro t w
    rw [three, fl_of]
    exact run_mul_fl (by omega) (by omega) (by omega) t w
  have m3 : ∀ t w, (binOp .mul t (.float .f64 (fl (3 * s))) (.float .f64 (floatOfInt .f64 ((tx : Int) + (ty : Int))))).run Try.prog w = .ok (.float .f64 (fl (3 * s * (tx + ty)))) w := by
    intro t w
    rw [show ((tx : Int) + (ty : Int)) = ((tx + ty : Nat) : Int) by omega, fl_of]
    exact run_mul_fl (by omega) (by omega) h6 t w
  have a2 : ∀ t w, (binOp .add t (.float .f64 (floatOfInt .f64 (s : Int))) (.float .f64 (floatOfInt .f64 ((tx : Int) + (ty : Int))))).run Try.prog w = .ok (.float .f64 (fl (s + (tx + ty)))) w := by
    intro t w
    rw [show ((tx : Int) + (ty : Int)) = ((tx + ty : Nat) : Int) by omega, fl_of, fl_of]
    exact run_add_fl (by omega) t w
  have m4 := run_mul_fl (P := Try.prog) (a := 3 * s * (tx + ty)) (b := s + (tx + ty)) h6 (by omega) (by omega)
  have a3 := run_add_fl (P := Try.prog) h5
  have hrow := (((h.set 0 (.float .f64 (fl (U + ty * (2 * cb + tx))))).set 1 (.float .f64 (fl (T + 3 * s * (tx + ty) * (s + (tx + ty)))))).set 2 (.int .i64 ((s : Int) + ((tx : Int) + (ty : Int))))).set 3 (.int .i64 ((cb : Int) + (tx : Int)))
  have hbel : Below B w ((((w.setCell ⟨B, 0, none⟩ (.float .f64 (fl (U + ty * (2 * cb + tx))))).setCell ⟨B, 1, none⟩ (.float .f64 (fl (T + 3 * s * (tx + ty) * (s + (tx + ty)))))).setCell ⟨B, 2, none⟩ (.int .i64 ((s : Int) + ((tx : Int) + (ty : Int))))).setCell ⟨B, 3, none⟩ (.int .i64 ((cb : Int) + (tx : Int)))) :=
    ((((Below.refl B w).setCell (Nat.le_refl _) _).setCell (Nat.le_refl _) _).setCell (Nat.le_refl _) _).setCell (Nat.le_refl _) _
  have ROW : Hid _ := hrow
  clear hrow h
  go_enter Try.func23, Try.ntmps23
  go_wp2
  go_big_region
  clear m1 a1
  go_wp2
  go_end0
  refine ⟨rfl, ?_, ?_⟩
  · refine World.rowIs.congr ROW.out (fun i hi => ?_)
    rcases (show i = 0 ∨ i = 1 ∨ i = 2 ∨ i = 3 by omega) with rfl | rfl | rfl | rfl <;> simp [rk]
  · exact hbel.drew
end Go.Proofs.Qxb6602837a
