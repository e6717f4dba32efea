/- The law that counts the pairs: its walk. -/
import Derived.Test.Qxb6602837aPairs
namespace Go.Proofs.Qxb6602837a
open Go.RowKit

theorem rowP_succ (X : Nat → Int) (i : Nat) (y : Int) : rowP X (i + 1) y = rowP X i y + wgt (X i) y := rfl
theorem pairs_succ (X Y : Nat → Int) (n j : Nat) : pairs X Y n (j + 1) = pairs X Y n j + rowP X n (Y j) := rfl

theorem row_add {X Y : Nat → Int} {n i j a d : Nat} (h : a = pairs X Y n j + rowP X i (Y j)) (hd : wgt (X i) (Y j) = d) : a + d = pairs X Y n j + rowP X (i + 1) (Y j) := by
  rw [rowP_succ, hd, h]; omega

theorem row_none {X Y : Nat → Int} {n i j a : Nat} (h : a = pairs X Y n j + rowP X i (Y j)) (hd : wgt (X i) (Y j) = 0) : a = pairs X Y n j + rowP X (i + 1) (Y j) := by
  rw [rowP_succ, hd, h]; omega

theorem pairs_small {X Y : Nat → Int} {n j a : Nat} (h : a = pairs X Y n j) (hn : n ≤ 4096) (hj : j ≤ 4096) : a ≤ 33554432 := by
  have := pairs_le X Y n j
  have h2 : j * (n * 2) ≤ 4096 * (4096 * 2) := Nat.mul_le_mul hj (by omega)
  omega

theorem row_small {X Y : Nat → Int} {n i j a : Nat} (h : a = pairs X Y n j + rowP X i (Y j)) (hn : n ≤ 4096) (hj : j ≤ 4096) (hi : i ≤ 4096) : a ≤ 33562624 := by
  have := pairs_small (X := X) (Y := Y) (n := n) (j := j) rfl hn hj
  have := rowP_le X i (Y j)
  omega

theorem eqs_le (X : Nat → Int) (n : Nat) (Y : Nat → Int) (m : Nat) (v : Int) : eqs X n Y m v ≤ n + m := by
  have := cnt_le X n v
  have := cnt_le Y m v
  unfold eqs; omega

theorem sq_small {c : Nat} (h : c ≤ 8192) : (0 : Int) ≤ (c : Int) * (c : Int) ∧ (c : Int) * (c : Int) ≤ 67108864 := by
  have h1 : c * c ≤ 8192 * 8192 := Nat.mul_le_mul h h
  rw [← Int.natCast_mul]
  omega

theorem sqs_small {X Y : Nat → Int} {n m i j a : Nat} (h : a = sqs X n Y m i j) (hn : n ≤ 4096) (hm : m ≤ 4096) (hi : i ≤ n) (hj : j ≤ m) : a ≤ 549755813888 := by
  have := sqs_le X Y n m i j
  have h1 : (n + m) * (n + m) ≤ 8192 * 8192 := Nat.mul_le_mul (by omega) (by omega)
  have h2 : (i + j) * ((n + m) * (n + m)) ≤ 8192 * (8192 * 8192) := Nat.mul_le_mul (by omega) h1
  omega

theorem sqs_x {X Y : Nat → Int} {n m i a : Nat} (h : a = sqs X n Y m i 0) : a + eqs X n Y m (X i) * eqs X n Y m (X i) = sqs X n Y m (i + 1) 0 := by
  rw [h]; unfold sqs; rw [sumN_succ i]; omega

theorem sqs_y {X Y : Nat → Int} {n m j a : Nat} (h : a = sqs X n Y m n j) : a + eqs X n Y m (Y j) * eqs X n Y m (Y j) = sqs X n Y m n (j + 1) := by
  rw [h]; unfold sqs; rw [sumN_succ j]; omega

theorem int_sq_add (a c : Nat) : ((a : Int) + (c : Int) * (c : Int)) = ((a + c * c : Nat) : Int) := by
  rw [Int.natCast_add, Int.natCast_mul]

set_option maxHeartbeats 4000000 in
set_option maxRecDepth 100000 in
theorem counts_walk (xa : Option Addr) (n xc : Nat) (s : Nat) (ya : Option Addr) (m yc : Nat) (X Y : Nat → Nat) (w : World) (hn : n ≤ maxLen) (hm : m ≤ maxLen) (hx : FAt w xa n X) (hy : FAt w ya m Y) :
    Calls Try.prog 3 #[.slice xa n xc, .float .f64 s, .slice ya m yc] w fun e w' => Yes w e w' := by
  go_enter Try.func3, Try.ntmps3
  go_wp2_with fail
  refine (zz_counts xa n xc s ya m yc w hn hm).mono ?_
  rintro e w1 ⟨β, rfl, rfl⟩
  cases β
  · go_wp2
    go_ret
    exact ⟨rfl, Below.refl _ _⟩
  by_cases hn1 : (4096 : Int) < n
  · go_wp2
    go_ret
    exact ⟨rfl, Below.refl _ _⟩
  by_cases hm1 : (4096 : Int) < m
  · go_wp2
    go_ret
    exact ⟨rfl, Below.refl _ _⟩
  go_wp2_with fail
  refine (products_asc xa n xc s X _ hn hx).mono ?_
  rintro e w2 ⟨β, q1, rfl, hA1, rfl⟩
  cases β
  · go_wp2
    go_ret
    exact ⟨rfl, below_drewN (Below.refl _ _) _⟩
  obtain ⟨Q, hq, ax⟩ := hA1 rfl
  clear hA1
  go_wp2_with fail
  refine (ascending ya m yc Y _ hm (fat_drewN hy q1)).mono ?_
  rintro e w2 ⟨β, q2, rfl, hA2, rfl⟩
  cases β
  · go_wp2
    go_ret
    exact ⟨rfl, below_drewN (Below.refl _ _) _⟩
  have ay := hA2 rfl
  clear hA2
  go_wp2_with fail
  have hb0 : Below w1.heap.size w1 (w1.drewN (q1 + q2)) := below_drewN (Below.refl _ _) _
  refine (copy_any xa n xc X (w1.drewN (q1 + q2)) (by omega) (fat_below hx hb0)).mono ?_
  rintro e w3 ⟨xa', xc', rfl, hx3, hb3⟩
  have hb3' := hb0.trans hb3
  have hy3 := fat_below hy hb3'
  clear hb0 hb3 hx hy
  go_wp2_with fail
  refine (copy_any ya m yc Y w3 (by omega) hy3).mono ?_
  rintro e w4 ⟨ya', yc', rfl, hy4, hb4⟩
  have hx4 := fat_below hx3 hb4
  have hb4' := hb3'.trans (hb4.mono hb3'.size)
  clear hb4 hb3' hx3 hy3
  go_wp2_with fail
  refine (zz_mann xa' n xc' s ya' m yc' X Q Y w4 (by omega) (by omega) hx4 hy4 hq ax ay).mono ?_
  rintro e w5 ⟨T1, rfl, hT1, hb5⟩
  have hx5 := fat_below hx4 hb5
  have hy5 := fat_below hy4 hb5
  have hb5' := hb4'.trans (hb5.mono hb4'.size)
  have HT1 : Hid (T1 + sqs (fun i => key (Q i)) n (fun j => key (Y j)) m n m = (n + m) * (n + m) * (n + m)) := hT1
  clear hb5 hb4' hx4 hy4 hT1
  obtain ⟨P, hP⟩ : ∃ P, P = pairs (fun i => key (Q i)) (fun j => key (Y j)) n m := ⟨_, rfl⟩
  rw [← hP]
  have HP : Hid (P = pairs (fun i => key (Q i)) (fun j => key (Y j)) n m) := hP
  clear hP
  go_wp2_with fail
  -- the pairs, one by one
  go_loopg [9, 10] m (fun g av jv wx => wx = w5 ∧ ∃ j a : Nat, g = m - j ∧ j ≤ m ∧ jv = .int .i64 j ∧ av = .int .i64 a ∧ a ≤ 33554432 ∧ Hid (a = pairs (fun i => key (Q i)) (fun j => key (Y j)) n j))
  case atStart => exact ⟨rfl, 0, 0, rfl, Nat.zero_le _, rfl, rfl, Nat.zero_le _, rfl⟩
  case round =>
    obtain ⟨rfl, j, a, rfl, hj, rfl, rfl, ha0, hA⟩ := hrel
    by_cases hjm : j < m
    · have hjz : (j : Int) < m := by omega
      go_wp2_with fail
      go_loopg [9, 11] n (fun g av iv wx => wx = wr ∧ ∃ i a : Nat, g = n - i ∧ i ≤ n ∧ iv = .int .i64 i ∧ av = .int .i64 a ∧ a ≤ 33562624 ∧ Hid (a = pairs (fun i => key (Q i)) (fun j => key (Y j)) n j + rowP (fun i => key (Q i)) i (key (Y j))))
      case atStart => exact ⟨rfl, 0, a, rfl, Nat.zero_le _, rfl, rfl, by omega, hA.out⟩
      case round =>
        obtain ⟨rfl, i, a2, rfl, hi, rfl, rfl, ha2, hA2⟩ := hrel
        by_cases hin : i < n
        · have hiz : (i : Int) < n := by omega
          obtain ⟨xb, xo, hxa, hxc⟩ := hx5
          obtain ⟨yb, yo, hya, hyc⟩ := hy5
          obtain rfl := hxa (by omega)
          obtain rfl := hya (by omega)
          have ci := hxc i hin
          have cj := hyc j hjm
          have hrun := run_mul_some (P := Try.prog) (hq i hin) 23
          have ni := ax.1 i hin
          have nj := ay.1 j hjm
          clear hxc hyc hxa hya hb5'
          rcases Int.lt_trichotomy (key (Q i)) (key (Y j)) with hcmp | hcmp | hcmp
          · have o1 := order_lt ni nj hcmp
            have hA3 : Hid (a2 + 2 = _) := row_add (X := fun i => key (Q i)) (Y := fun j => key (Y j)) hA2.out (wgt_lt hcmp)
            go_wp2
            go_roundg (n - (i + 1))
            case measure => omega
            case rel => exact ⟨rfl, i + 1, a2 + 2, rfl, by omega, by go_num, by go_num, row_small hA3.out (by omega) (by omega) (by omega), hA3.out⟩
          · have o1 := order_eq ni nj hcmp
            have hA3 : Hid (a2 + 1 = _) := row_add (X := fun i => key (Q i)) (Y := fun j => key (Y j)) hA2.out (wgt_eq hcmp)
            clear hcmp
            go_wp2
            go_roundg (n - (i + 1))
            case measure => omega
            case rel => exact ⟨rfl, i + 1, a2 + 1, rfl, by omega, by go_num, by go_num, row_small hA3.out (by omega) (by omega) (by omega), hA3.out⟩
          · have o1 := order_gt ni nj hcmp
            have hA3 : Hid (a2 = _) := row_none (X := fun i => key (Q i)) (Y := fun j => key (Y j)) hA2.out (wgt_gt hcmp)
            go_wp2
            go_roundg (n - (i + 1))
            case measure => omega
            case rel => exact ⟨rfl, i + 1, a2, rfl, by omega, by go_num, rfl, ha2, hA3.out⟩
        · have hiz : ¬ (i : Int) < n := by omega
          have hA3 : Hid (a2 = pairs (fun i => key (Q i)) (fun j => key (Y j)) n (j + 1)) := by
            rw [pairs_succ, show n = i by omega]; rw [show n = i by omega] at hA2; exact hA2.out
          go_wp2
          go_roundg (m - (j + 1))
          case measure => omega
          case rel => exact ⟨rfl, j + 1, a2, rfl, by omega, by go_num, rfl, pairs_small hA3.out (by omega) (by omega), hA3.out⟩
    · have hjz : ¬ (j : Int) < m := by omega
      have hAP : a = P := by rw [HP.out, hA.out, show m = j by omega]
      subst hAP
      clear hA HP
      go_wp2_with fail
      -- the squares of the groups' sizes: the first side
      go_loopg [13, 14] n (fun g cv iv wx => wx = wr ∧ ∃ i c : Nat, g = n - i ∧ i ≤ n ∧ iv = .int .i64 i ∧ cv = .int .i64 c ∧ c ≤ 549755813888 ∧ Hid (c = sqs (fun i => key (Q i)) n (fun j => key (Y j)) m i 0))
      case atStart => exact ⟨rfl, 0, 0, rfl, Nat.zero_le _, rfl, rfl, Nat.zero_le _, rfl⟩
      case round =>
        obtain ⟨rfl, i, c, rfl, hi, rfl, rfl, hc0, hC⟩ := hrel
        by_cases hin : i < n
        · have hiz : (i : Int) < n := by omega
          have con := equal_count (Q i) xa' n xc' s ya' m yc' X Q Y wr (by omega) (by omega) hx5 hy5 hq ax ay (ax.1 i hin)
          obtain ⟨xb, xo, hxa, hxc⟩ := hx5
          obtain rfl := hxa (by omega)
          have ci := hxc i hin
          have hrun := run_mul_some (P := Try.prog) (hq i hin) 23
          have hle := eqs_le (fun i => key (Q i)) n (fun j => key (Y j)) m (key (Q i))
          have hC' := sqs_x hC.out
          obtain ⟨d, hd⟩ : ∃ d, d = eqs (fun i => key (Q i)) n (fun j => key (Y j)) m (key (Q i)) := ⟨_, rfl⟩
          rw [← hd] at con hle hC'
          have hC'' : Hid (c + d * d = sqs (fun i => key (Q i)) n (fun j => key (Y j)) m (i + 1) 0) := hC'
          obtain ⟨z0, z1⟩ := sq_small (c := d) (by omega)
          clear hxc hxa hb5' hd hC' hC hy5
          go_wp2_with fail
          refine con.mono ?_
          rintro e w6 ⟨rfl, rfl⟩
          clear con
          go_wp2
          go_roundg (n - (i + 1))
          case measure => omega
          case rel => exact ⟨rfl, i + 1, c + d * d, rfl, by omega, by go_num, congrArg (Value.int .i64) (int_sq_add c d), sqs_small hC''.out (by omega) (by omega) (by omega) (by omega), hC''.out⟩
        · have hiz : ¬ (i : Int) < n := by omega
          have hC2 : Hid (c = sqs (fun i => key (Q i)) n (fun j => key (Y j)) m n 0) := by rw [show n = i by omega]; rw [show n = i by omega] at hC; exact hC.out
          clear hC
          go_wp2_with fail
          -- the other side
          go_loopg [13, 16] m (fun g cv iv wx => wx = wr ∧ ∃ i c : Nat, g = m - i ∧ i ≤ m ∧ iv = .int .i64 i ∧ cv = .int .i64 c ∧ c ≤ 549755813888 ∧ Hid (c = sqs (fun i => key (Q i)) n (fun j => key (Y j)) m n i))
          case atStart => exact ⟨rfl, 0, c, rfl, Nat.zero_le _, rfl, rfl, hc0, hC2.out⟩
          case round =>
            obtain ⟨rfl, i, c, rfl, hi, rfl, rfl, hc0, hC⟩ := hrel
            by_cases him : i < m
            · have hiz : (i : Int) < m := by omega
              have con := equal_count (Y i) xa' n xc' s ya' m yc' X Q Y wr (by omega) (by omega) hx5 hy5 hq ax ay (ay.1 i him)
              obtain ⟨yb, yo, hya, hyc⟩ := hy5
              obtain rfl := hya (by omega)
              have ci := hyc i him
              have hle := eqs_le (fun i => key (Q i)) n (fun j => key (Y j)) m (key (Y i))
              have hC' := sqs_y hC.out
              obtain ⟨d, hd⟩ : ∃ d, d = eqs (fun i => key (Q i)) n (fun j => key (Y j)) m (key (Y i)) := ⟨_, rfl⟩
              rw [← hd] at con hle hC'
              have hC'' : Hid (c + d * d = sqs (fun i => key (Q i)) n (fun j => key (Y j)) m n (i + 1)) := hC'
              obtain ⟨z0, z1⟩ := sq_small (c := d) (by omega)
              clear hyc hya hb5' hd hC' hC hx5 hC2
              go_wp2_with fail
              refine con.mono ?_
              rintro e w6 ⟨rfl, rfl⟩
              clear con
              go_wp2
              go_roundg (m - (i + 1))
              case measure => omega
              case rel => exact ⟨rfl, i + 1, c + d * d, rfl, by omega, by go_num, congrArg (Value.int .i64) (int_sq_add c d), sqs_small hC''.out (by omega) (by omega) (by omega) (by omega), hC''.out⟩
            · have hiz : ¬ (i : Int) < m := by omega
              have hCm : c = sqs (fun i => key (Q i)) n (fun j => key (Y j)) m n m := by rw [show m = i by omega]; rw [show m = i by omega] at hC; exact hC.out
              have hsum := HT1.out
              rw [← hCm] at hsum
              have y1 : (n + m) * (n + m) ≤ 8192 * 8192 := Nat.mul_le_mul (by omega) (by omega)
              have y2 : (n + m) * (n + m) * (n + m) ≤ 8192 * 8192 * 8192 := Nat.mul_le_mul y1 (by omega)
              have i1 : ((n : Int) + (m : Int)) * ((n : Int) + (m : Int)) = (((n + m) * (n + m) : Nat) : Int) := by rw [Int.natCast_mul, Int.natCast_add]
              have i2 : ((n : Int) + (m : Int)) * ((n : Int) + (m : Int)) * ((n : Int) + (m : Int)) = (((n + m) * (n + m) * (n + m) : Nat) : Int) := by rw [Int.natCast_mul, Int.natCast_mul, Int.natCast_add]
              have z0 : 0 ≤ ((n : Int) + (m : Int)) * ((n : Int) + (m : Int)) := by rw [i1]; omega
              have z1 : ((n : Int) + (m : Int)) * ((n : Int) + (m : Int)) ≤ 67108864 := by rw [i1]; omega
              have z2 : 0 ≤ ((n : Int) + (m : Int)) * ((n : Int) + (m : Int)) * ((n : Int) + (m : Int)) := by rw [i2]; omega
              have z3 : ((n : Int) + (m : Int)) * ((n : Int) + (m : Int)) * ((n : Int) + (m : Int)) ≤ 549755813888 := by rw [i2]; omega
              have o1 : FloatKind.f64.format.order (fl a) (floatOfInt .f64 (a : Int)) = some .eq := by
                rw [fl_of]; exact order_eq (num_fl _) (num_fl _) rfl
              have o2 : FloatKind.f64.format.order (fl T1) (floatOfInt .f64 (((n : Int) + (m : Int)) * ((n : Int) + (m : Int)) * ((n : Int) + (m : Int)) - (c : Int))) = some .eq := by
                rw [i2, show ((((n + m) * (n + m) * (n + m) : Nat) : Int) - (c : Int)) = ((T1 : Nat) : Int) by omega, fl_of]
                exact order_eq (num_fl _) (num_fl _) rfl
              clear hCm hC hsum y1 y2 i1 i2 HT1 hC2 hx5 hy5 ax ay hq
              go_wp2
              go_ret
              exact ⟨rfl, hb5'⟩
end Go.Proofs.Qxb6602837a
