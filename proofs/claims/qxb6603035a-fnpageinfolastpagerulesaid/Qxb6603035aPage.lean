/- ZZPageInfo, and the law on the last page: its walk. -/
import Derived.Test.Qxb6603035aInfo
namespace Go.Proofs.Qxb6603035a
open Go.RowKit

/-- n lies ahead of the last page just where more than n pages' items are there. -/
theorem pages_iff (n z t : Int) (hz : 1 ≤ z) : n < (t + z - 1) / z ↔ n * z < t := by
  have h : n + 1 ≤ (t + z - 1) / z ↔ (n + 1) * z ≤ t + z - 1 := Int.le_ediv_iff_mul_le (by omega)
  rw [Int.add_mul, Int.one_mul] at h
  omega

theorem before_eq (n z : Int) : (n - 1) * z = n * z - z := by rw [Int.sub_mul, Int.one_mul]

theorem before_pos (n z : Int) (h1 : 1 ≤ n) (h3 : 1 ≤ z) : 0 ≤ (n - 1) * z := Int.mul_nonneg (by omega) (by omega)

theorem before_le (n z : Int) (h1 : 1 ≤ n) (h2 : n ≤ 2147483647) (h3 : 1 ≤ z) (h4 : z ≤ 2147483647) : (n - 1) * z ≤ 2147483647 * 2147483647 :=
  Int.mul_le_mul (by omega) h4 (by omega) (by omega)

def PiPost (n z t : Int) (nx : Bool) (w : World) (e : Ending) (w' : World) : Prop :=
  e = .returned (.tuple #[.int .i32 t, .int .i32 n, .int .i32 z, .bool nx]) ∧ Below w.heap.size w w'

set_option maxHeartbeats 1000000 in
theorem page_any (n z t sh : Int) (nx : Bool) (w : World) (h1 : 1 ≤ n) (h2 : n ≤ 2147483647) (h3 : 1 ≤ z) (h4 : z ≤ 2147483647) (h5 : 0 ≤ (n - 1) * z) (h6 : (n - 1) * z ≤ 2147483647) (h7 : 0 ≤ t) (h8 : t ≤ 2147483647) (h9 : 0 ≤ sh) (h10 : sh ≤ 2147483647)
    (hnx : decide ((n - 1) * z + sh < t) = nx) :
    Calls Try.prog 5 #[.int .i64 n, .int .i64 z, .int .i64 t, .int .i64 sh] w fun e w' => PiPost n z t nx w e w' := by
  have con := info_any n z t sh w h1 h2 h3 h4 h5 h6 h7 h8 h9 h10
  rw [hnx] at con
  have CON : Hid (Calls Try.prog 6 #[.agg #[.int .i64 n, .int .i64 z], .int .i64 t, .int .i64 sh] w fun e w' => InfPost n z t nx w e w') := con
  clear con hnx h5 h6
  go_enter Try.func5, Try.ntmps5
  go_wp2_with fail
  refine CON.out.mono ?_
  rintro e w1 ⟨rfl, hb⟩
  clear CON
  go_wp2
  go_quiet (fail)
  go_wp2
  refine bodyPost_ret (v := .tuple #[.int .i32 t, .int .i32 n, .int .i32 z, .bool nx]) (by simp [results, Try.results5, go_sem]) rfl ⟨rfl, ?_⟩
  exact below_drewN (hb.alloc hb.size _) _

def Yes (w : World) (e : Ending) (w' : World) : Prop := e = .returned (.bool true) ∧ Below w.heap.size w w'

set_option maxHeartbeats 4000000 in
set_option maxRecDepth 100000 in
theorem last_walk (n z t : Int) (w : World) : Calls Try.prog 3 #[.int .i64 n, .int .i64 z, .int .i64 t] w fun e w' => Yes w e w' := by
  by_cases hb : 1 ≤ n ∧ n ≤ 2147483647 ∧ 1 ≤ z ∧ z ≤ 2147483647 ∧ 0 ≤ t ∧ t ≤ 2147483647
  · obtain ⟨h1, h2, h3, h4, h7, h8⟩ := hb
    have h5 := before_pos n z h1 h3
    have h5' := before_le n z h1 h2 h3 h4
    by_cases h6 : (2147483647 : Int) < (n - 1) * z
    · go_enter Try.func3, Try.ntmps3
      go_wp2
      go_ret
      exact ⟨rfl, Below.refl _ _⟩
    · have h6' : (n - 1) * z ≤ 2147483647 := by omega
      clear h5' h6
      have hp := pages_iff n z t h3
      have hbe := before_eq n z
      by_cases c1 : t - (n - 1) * z < 0
      · have hfin : decide ((n - 1) * z + 0 < t) = decide (n < (t + z - 1) / z) := by rw [decide_eq_decide, hp]; omega
        have con := page_any n z t 0 _ w h1 h2 h3 h4 h5 h6' h7 h8 (by omega) (by omega) hfin
        have CON : Hid (Calls Try.prog 5 #[.int .i64 n, .int .i64 z, .int .i64 t, .int .i64 0] w fun e w' => PiPost n z t (decide (n < (t + z - 1) / z)) w e w') := con
        clear hp hbe hfin con
        go_enter Try.func3, Try.ntmps3
        go_wp2_with fail
        refine CON.out.mono ?_
        rintro e w1 ⟨rfl, hbel⟩
        clear CON
        go_wp2
        go_ret
        exact ⟨rfl, hbel⟩
      · by_cases c2 : z < t - (n - 1) * z
        · have hfin : decide ((n - 1) * z + z < t) = decide (n < (t + z - 1) / z) := by rw [decide_eq_decide, hp]; omega
          have con := page_any n z t z _ w h1 h2 h3 h4 h5 h6' h7 h8 (by omega) (by omega) hfin
          have CON : Hid (Calls Try.prog 5 #[.int .i64 n, .int .i64 z, .int .i64 t, .int .i64 z] w fun e w' => PiPost n z t (decide (n < (t + z - 1) / z)) w e w') := con
          clear hp hbe hfin con
          go_enter Try.func3, Try.ntmps3
          go_wp2_with fail
          refine CON.out.mono ?_
          rintro e w1 ⟨rfl, hbel⟩
          clear CON
          go_wp2
          go_ret
          exact ⟨rfl, hbel⟩
        · have hfin : decide ((n - 1) * z + (t - (n - 1) * z) < t) = decide (n < (t + z - 1) / z) := by rw [decide_eq_decide, hp]; omega
          have con := page_any n z t (t - (n - 1) * z) _ w h1 h2 h3 h4 h5 h6' h7 h8 (by omega) (by omega) hfin
          have CON : Hid (Calls Try.prog 5 #[.int .i64 n, .int .i64 z, .int .i64 t, .int .i64 (t - (n - 1) * z)] w fun e w' => PiPost n z t (decide (n < (t + z - 1) / z)) w e w') := con
          clear hp hbe hfin con
          go_enter Try.func3, Try.ntmps3
          go_wp2_with fail
          refine CON.out.mono ?_
          rintro e w1 ⟨rfl, hbel⟩
          clear CON
          go_wp2
          go_ret
          exact ⟨rfl, hbel⟩
  · go_enter Try.func3, Try.ntmps3
    go_wp2
    all_goals
      go_ret
      exact ⟨rfl, Below.refl _ _⟩
end Go.Proofs.Qxb6603035a
