/- offset, info, ZZPageInfo. -/
import Derived.Test.Qxb6603035aRows
import Derived.WalkKit
import Derived.WalkSpells
import Derived.WalkLawsBesides
import Derived.Deep.LoopGhost
import Derived.Deep.OwnRows
import Derived.Deep.QuietTactic
import Derived.BigQuiet
import Derived.Deep.RegionWith
namespace Go.Proofs.Qxb6603035a
open Go.RowKit

theorem w32 (t : Int) (h0 : 0 ≤ t) (h : t ≤ 2147483647) : IntKind.i32.wrap t = t := by rw [IntKind.wrap_i32]; omega
theorem w64 (t : Int) (h0 : 0 ≤ t) (h : t ≤ 4294967294) : IntKind.i64.wrap t = t := by rw [IntKind.wrap_i64]; omega

set_option maxHeartbeats 400000 in
theorem offset_any (n z : Int) (w : World) (h1 : 1 ≤ n) (h2 : n ≤ 2147483647) (_h3 : 1 ≤ z) (_h4 : z ≤ 2147483647) (h5 : 0 ≤ (n - 1) * z) (h6 : (n - 1) * z ≤ 2147483647) :
    Calls Try.prog 7 #[.agg #[.int .i64 n, .int .i64 z]] w fun e w' => e = .returned (.int .i64 ((n - 1) * z)) ∧ w' = w.alloc (.cells #[.int .i64 n, .int .i64 z] 29) := by
  go_enter Try.func7, Try.ntmps7
  go_wp2
  go_ret
  exact ⟨rfl, rfl⟩

def InfPost (n z t : Int) (nx : Bool) (w : World) (e : Ending) (w' : World) : Prop :=
  e = .returned (.agg #[.int .i32 t, .int .i32 n, .int .i32 z, .bool nx]) ∧ Below w.heap.size w w'

set_option maxHeartbeats 4000000 in
theorem info_any (n z t sh : Int) (w : World) (h1 : 1 ≤ n) (h2 : n ≤ 2147483647) (h3 : 1 ≤ z) (h4 : z ≤ 2147483647) (h5 : 0 ≤ (n - 1) * z) (h6 : (n - 1) * z ≤ 2147483647) (h7 : 0 ≤ t) (h8 : t ≤ 2147483647) (h9 : 0 ≤ sh) (h10 : sh ≤ 2147483647) :
    Calls Try.prog 6 #[.agg #[.int .i64 n, .int .i64 z], .int .i64 t, .int .i64 sh] w fun e w' => InfPost n z t (decide ((n - 1) * z + sh < t)) w e w' := by
  have e1 := w32 t h7 h8
  have e2 := w32 n (by omega) h2
  have e3 := w32 z (by omega) h4
  have e4 := w64 ((n - 1) * z + sh) (by omega) (by omega)
  go_enter Try.func6, Try.ntmps6
  go_wp2
  go_region_with (go_at_call 7; refine (offset_any n z _ h1 h2 h3 h4 h5 h6).mono ?_; rintro e w1 ⟨rfl, rfl⟩)
  all_goals
    go_wp2
    refine bodyPost_ret (v := .agg #[.int .i32 t, .int .i32 n, .int .i32 z, .bool (decide ((n - 1) * z + sh < t))]) (by simp [results, Try.results6, go_sem]) rfl ⟨rfl, ?_⟩
    exact ((((Below.refl _ _).alloc (Nat.le_refl _) _).alloc (by simp) _).alloc (by simp; omega) _).drew
end Go.Proofs.Qxb6603035a
