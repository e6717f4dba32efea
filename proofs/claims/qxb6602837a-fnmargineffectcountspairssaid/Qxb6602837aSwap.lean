/- The law on the two sides swapped: its walk. -/
import Derived.Test.Qxb6602837aMann
namespace Go.Proofs.Qxb6602837a
open Go.RowKit

theorem oneEq : (4607182418800017408 : Nat) = W 1 := by
  unfold W
  decide

theorem prods_one {n : Nat} {X : Nat → Nat} (h : Asc n X) (hX : ∀ i, i < n → X i < 2 ^ 64) : Prods n 4607182418800017408 X X := fun i hi => by
  rw [oneEq]
  exact mul_one (X i) (hX i hi) (h.1 i hi)

def Yes (w : World) (e : Ending) (w' : World) : Prop := e = .returned (.bool true) ∧ Below w.heap.size w w'

theorem fat_drewN {w : World} {a : Option Addr} {n : Nat} {X : Nat → Nat} (h : FAt w a n X) (q : Nat) : FAt (w.drewN q) a n X := h

set_option maxHeartbeats 1000000 in
theorem swap_walk (xa : Option Addr) (n xc : Nat) (ya : Option Addr) (m yc : Nat) (X Y : Nat → Nat) (w : World) (hn : n ≤ maxLen) (hm : m ≤ maxLen) (hx : FAt w xa n X) (hy : FAt w ya m Y)
    (hX : ∀ i, i < n → X i < 2 ^ 64) (hY : ∀ i, i < m → Y i < 2 ^ 64) :
    Calls Try.prog 4 #[.slice xa n xc, .slice ya m yc] w fun e w' => Yes w e w' := by
  go_enter Try.func4, Try.ntmps4
  go_wp2_with fail
  refine (zz_swap xa n xc ya m yc w hn hm).mono ?_
  rintro e w1 ⟨β, rfl, rfl⟩
  cases β
  · go_wp2
    go_ret
    exact ⟨rfl, Below.refl _ _⟩
  by_cases hn1 : (4096 : Int) < n
  · go_wp2
    go_ret
    exact ⟨rfl, Below.refl _ _⟩
  by_cases hm1 : (4096 : Int) < m
  · go_wp2
    go_ret
    exact ⟨rfl, Below.refl _ _⟩
  go_wp2_with fail
  refine (ascending xa n xc X _ hn hx).mono ?_
  rintro e w2 ⟨β, q1, rfl, hA1, rfl⟩
  cases β
  · go_wp2
    go_ret
    exact ⟨rfl, below_drewN (Below.refl _ _) _⟩
  have ax := hA1 rfl
  clear hA1
  go_wp2_with fail
  refine (ascending ya m yc Y _ hm (fat_drewN hy q1)).mono ?_
  rintro e w2 ⟨β, q2, rfl, hA2, rfl⟩
  cases β
  · go_wp2
    go_ret
    exact ⟨rfl, below_drewN (Below.refl _ _) _⟩
  have ay := hA2 rfl
  clear hA2
  go_wp2_with fail
  have hb0 : Below w1.heap.size w1 (w1.drewN (q1 + q2)) := below_drewN (Below.refl _ _) _
  refine (copy_any xa n xc X (w1.drewN (q1 + q2)) (by omega) (fat_below hx hb0)).mono ?_
  rintro e w3 ⟨xa', xc', rfl, hx3, hb3⟩
  have hb3' := hb0.trans hb3
  have hy3 := fat_below hy hb3'
  clear hb0 hb3 hx hy
  go_wp2_with fail
  refine (copy_any ya m yc Y w3 (by omega) hy3).mono ?_
  rintro e w4 ⟨ya', yc', rfl, hy4, hb4⟩
  have hx4 := fat_below hx3 hb4
  have hb4' := hb3'.trans (hb4.mono hb3'.size)
  clear hb4 hb3' hx3 hy3
  go_wp2_with fail
  refine (zz_mann xa' n xc' _ ya' m yc' X X Y w4 (by omega) (by omega) hx4 hy4 (prods_one ax hX) ax ay).mono ?_
  rintro e w5 ⟨T1, rfl, hT1, hb5⟩
  have hx5 := fat_below hx4 hb5
  have hy5 := fat_below hy4 hb5
  have hb5' := hb4'.trans (hb5.mono hb4'.size)
  have HT1 : Hid (T1 + sqs (fun i => key (X i)) n (fun j => key (Y j)) m n m = (n + m) * (n + m) * (n + m)) := hT1
  clear hb5 hb4' hx4 hy4 hT1
  go_wp2_with fail
  refine (zz_mann ya' m yc' _ xa' n xc' Y Y X w5 (by omega) (by omega) hy5 hx5 (prods_one ay hY) ay ax).mono ?_
  rintro e w6 ⟨T2, rfl, hT2, hb6⟩
  have hb6' := hb5'.trans (hb6.mono hb5'.size)
  have hTT : T2 = T1 := by
    have h1 := HT1.out
    rw [sqs_both, Nat.add_comm n m] at h1
    omega
  subst hTT
  have hp := pairs_both (fun i => key (X i)) (fun j => key (Y j)) n m
  have hsm : 2 * n * m ≤ 2 * 4096 * 4096 := Nat.mul_le_mul (by omega) (by omega)
  generalize hP1 : pairs (fun i => key (X i)) (fun j => key (Y j)) n m = P1 at *
  generalize hP2 : pairs (fun i => key (Y i)) (fun j => key (X j)) m n = P2 at *
  have hadd := run_add_fl (P := Try.prog) (a := P1) (b := P2) (by omega)
  have o1 : FloatKind.f64.format.order (fl (P1 + P2)) (floatOfInt .f64 (2 * (n : Int) * (m : Int))) = some .eq := by
    rw [hp, show (2 * (n : Int) * (m : Int)) = ((2 * n * m : Nat) : Int) by simp, fl_of]
    exact order_eq (num_fl _) (num_fl _) rfl
  have o2 := order_eq (num_fl T2) (num_fl T2) rfl
  have z1 : (2 * (n : Int) * (m : Int)) ≤ 33554432 := by
    have : (2 * (n : Int) * (m : Int)) = ((2 * n * m : Nat) : Int) := by simp
    omega
  have z0 : 0 ≤ (2 * (n : Int) * (m : Int)) := by
    have : (2 * (n : Int) * (m : Int)) = ((2 * n * m : Nat) : Int) := by simp
    omega
  clear hP1 hP2 hp hT2 HT1 ax ay hX hY hx5 hy5 hb5' hb6
  go_wp2
  go_ret
  exact ⟨rfl, hb6'⟩
end Go.Proofs.Qxb6602837a
