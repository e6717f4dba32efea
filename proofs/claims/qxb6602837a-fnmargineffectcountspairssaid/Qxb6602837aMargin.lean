/- The law on the margin's effect: its walk. -/
import Derived.Test.Qxb6602837aEffect
namespace Go.Proofs.Qxb6602837a
open Go.RowKit
attribute [local go_sem] run_store_float

set_option maxHeartbeats 400000 in
theorem zz_margin (mn : Int) (lv mi : Nat) (liw rt : Bool) (mr mg ms : Nat) (xa : Option Addr) (n xc : Nat) (w : World) (hn : n ≤ maxLen) :
    Calls Try.prog 15 #[.int .i64 mn, .float .f64 lv, .float .f64 mi, .bool liw, .bool rt, .float .f64 mr, .float .f64 mg, .float .f64 ms, .slice xa n xc] w fun e w' => BPost w e w' := by
  unfold maxLen at hn
  go_enter Try.func15, Try.ntmps15
  go_wp2
  all_goals
    go_ret
    exact ⟨_, rfl, rfl⟩

/-- One row of the pairs without the diagonal. -/
def offRow (S K : Nat → Int) (i j : Nat) : Nat := sumN j (fun b => if b = i then 0 else wgt (S i) (K b))
def offAll (S K : Nat → Int) (n i : Nat) : Nat := sumN i (fun a => offRow S K a n)

theorem off_diag (S K : Nat → Int) (n : Nat) : offAll S K n n + self S K n = pairs S K n n := by
  have h := diag n (fun i j => wgt (S i) (K j))
  have h2 := sumN_swap n n (fun i j => wgt (S i) (K j))
  unfold offAll offRow self pairs rowP
  omega

theorem offRow_le (S K : Nat → Int) (i j : Nat) : offRow S K i j ≤ j * 2 := sumN_le fun b _ => by split; omega; exact wgt_le _ _
theorem offAll_le (S K : Nat → Int) (n i : Nat) : offAll S K n i ≤ i * (n * 2) := sumN_le fun _ _ => offRow_le _ _ _ _

theorem off_small {S K : Nat → Int} {n i j a : Nat} (h : a = offAll S K n i + offRow S K i j) (hn : n ≤ 4096) (hi : i ≤ 4096) (hj : j ≤ 4096) : a ≤ 33562624 := by
  have h1 := offAll_le S K n i
  have h2 := offRow_le S K i j
  have h3 : i * (n * 2) ≤ 4096 * (4096 * 2) := Nat.mul_le_mul hi (by omega)
  omega

theorem offA_small {S K : Nat → Int} {n i a : Nat} (h : a = offAll S K n i) (hn : n ≤ 4096) (hi : i ≤ 4096) : a ≤ 33554432 := by
  have h1 := offAll_le S K n i
  have h3 : i * (n * 2) ≤ 4096 * (4096 * 2) := Nat.mul_le_mul hi (by omega)
  omega

theorem off_same {S K : Nat → Int} {n i j a : Nat} (h : a = offAll S K n i + offRow S K i j) (e : j = i) : a = offAll S K n i + offRow S K i (j + 1) := by
  have h1 : offRow S K i (j + 1) = offRow S K i j + (if j = i then 0 else wgt (S i) (K j)) := rfl
  rw [h1, if_pos e, h]; rfl
theorem off_add {S K : Nat → Int} {n i j a d : Nat} (h : a = offAll S K n i + offRow S K i j) (e : ¬ j = i) (hd : wgt (S i) (K j) = d) : a + d = offAll S K n i + offRow S K i (j + 1) := by
  have h1 : offRow S K i (j + 1) = offRow S K i j + (if j = i then 0 else wgt (S i) (K j)) := rfl
  rw [h1, if_neg e, h, hd]; omega
theorem off_zero {S K : Nat → Int} {n i j a : Nat} (h : a = offAll S K n i + offRow S K i j) (e : ¬ j = i) (hd : wgt (S i) (K j) = 0) : a = offAll S K n i + offRow S K i (j + 1) := by
  have h1 : offRow S K i (j + 1) = offRow S K i j + (if j = i then 0 else wgt (S i) (K j)) := rfl
  rw [h1, if_neg e, h, hd]; omega

theorem order00 : FloatKind.f64.format.order 0 0 = some .eq := by decide

set_option maxHeartbeats 4000000 in
set_option maxRecDepth 100000 in
theorem margin_walk (mn : Int) (lv mi : Nat) (liw rt : Bool) (mr mg ms : Nat) (xa : Option Addr) (n xc : Nat) (X : Nat → Nat) (w : World) (hn : n ≤ maxLen) (hx : FAt w xa n X) :
    Calls Try.prog 5 #[.int .i64 mn, .float .f64 lv, .float .f64 mi, .bool liw, .bool rt, .float .f64 mr, .float .f64 mg, .float .f64 ms, .slice xa n xc] w fun e w' => Yes w e w' := by
  go_enter Try.func5, Try.ntmps5
  go_wp2_with fail
  refine (zz_margin mn lv mi liw rt mr mg ms xa n xc w hn).mono ?_
  rintro e w1 ⟨β, rfl, rfl⟩
  cases β
  · go_wp2
    go_ret
    exact ⟨rfl, Below.refl _ _⟩
  by_cases hn1 : (4096 : Int) < n
  · go_wp2
    go_ret
    exact ⟨rfl, Below.refl _ _⟩
  cases t1 : (FloatKind.f64.format.order mg 0 == some .gt || FloatKind.f64.format.order mg 0 == some .eq)
  · go_wp2
    go_ret
    exact ⟨rfl, Below.refl _ _⟩
  have hmg : num mg := by
    by_cases h : num mg
    · exact h
    · rw [order_nan h] at t1; cases t1
  cases t2 : (FloatKind.f64.format.order mg 4607182418800017408 == some .lt || FloatKind.f64.format.order mg 4607182418800017408 == some .eq)
  · go_wp2
    go_ret
    exact ⟨rfl, Below.refl _ _⟩
  go_wp2_with fail
  refine (scale_any liw mg w1 hmg).mono ?_
  rintro e w2 ⟨rfl, rfl⟩
  clear t1 t2
  by_cases h2 : 2 ≤ n
  · have h2z : (2 : Int) ≤ n := by omega
    have h2z' : ¬ (n : Int) < 2 := by omega
    go_wp2_with fail
    refine (ascending xa n xc X _ hn hx).mono ?_
    rintro e w3 ⟨β, q1, rfl, hA1, rfl⟩
    cases β
    · go_wp2
      go_ret
      exact ⟨rfl, below_drewN (Below.refl _ _) _⟩
    have ay := hA1 rfl
    clear hA1
    go_wp2_with fail
    refine (products_asc xa n xc (scaleOf liw mg) X _ hn (fat_drewN hx q1)).mono ?_
    rintro e w3 ⟨β, q2, rfl, hA2, rfl⟩
    cases β
    · go_wp2
      go_ret
      exact ⟨rfl, below_drewN (Below.refl _ _) _⟩
    obtain ⟨Q, hq, ax⟩ := hA2 rfl
    clear hA2
    go_wp2_with fail
    have hb0 : Below w2.heap.size w2 (w2.drewN (q1 + q2)) := below_drewN (Below.refl _ _) _
    refine (copy_any xa n xc X (w2.drewN (q1 + q2)) (by omega) (fat_below hx hb0)).mono ?_
    rintro e w4 ⟨xa', xc', rfl, hx4, hb4⟩
    have hb4' := hb0.trans hb4
    clear hb0 hb4 hx
    go_wp2_with fail
    refine (zz_many mn lv mi liw rt mr mg ms xa' n xc' X Q _ h2 (by omega) hmg (fat_below hx4 ((Below.refl _ _).alloc (Nat.le_refl _) _)) hq ax ay).mono ?_
    rintro e w5 ⟨a, rfl, hA, hb5⟩
    have hb5' := (hb4'.alloc hb4'.size (.cells #[.int .i64 mn, .float .f64 lv, .float .f64 mi, .bool liw, .bool rt, .float .f64 mr, .float .f64 mg, .float .f64 ms] 35)).trans (hb5.mono (by have := hb4'.size; simp; omega))
    have hx5 := fat_below (fat_below hx4 ((Below.refl _ _).alloc (Nat.le_refl _) (.cells #[.int .i64 mn, .float .f64 lv, .float .f64 mi, .bool liw, .bool rt, .float .f64 mr, .float .f64 mg, .float .f64 ms] 35))) hb5
    have HA : Hid (a = offAll (fun i => key (Q i)) (fun i => key (X i)) n n) := by
      have := off_diag (fun i => key (Q i)) (fun i => key (X i)) n
      show a = _
      omega
    have has := offA_small HA.out (by omega) (by omega)
    clear hA hb5 hx4 hb4'
    obtain ⟨d1, d2, d3⟩ := small_d h2 (by omega)
    obtain ⟨r, e1, e2, e3, e4⟩ := eff_runs (P := Try.prog) a (2 * n * (n - 1)) (by omega) d1 d2
    have i1 : 2 * (n : Int) * ((n : Int) - 1) = ((2 * n * (n - 1) : Nat) : Int) := by
      rw [Int.natCast_mul, Int.natCast_mul, Int.ofNat_sub (by omega)]; rfl
    have hquo : ∀ t w, (binOp .quo t (.float .f64 (floatOfInt .f64 (a : Int))) (.float .f64 (floatOfInt .f64 (2 * (n : Int) * ((n : Int) - 1))))).run Try.prog w = .ok (.float .f64 r) w := by
      intro t w
      rw [i1, fl_of, fl_of]; exact e1 t w
    have z0 : 0 ≤ 2 * (n : Int) * ((n : Int) - 1) := by rw [i1]; omega
    have z1 : 2 * (n : Int) * ((n : Int) - 1) ≤ 33554432 := by rw [i1]; omega
    have oe := order_eq (e4 liw) (e4 liw) rfl
    clear i1 e1 e4 d1 d2 d3
    go_wp2_with fail
    go_loopg [23, 24] n (fun g cv iv wx => wx = w5 ∧ ∃ i c : Nat, g = n - i ∧ i ≤ n ∧ iv = .int .i64 i ∧ cv = .int .i64 c ∧ c ≤ 33554432 ∧ Hid (c = offAll (fun i => key (Q i)) (fun i => key (X i)) n i))
    case atStart => exact ⟨rfl, 0, 0, rfl, Nat.zero_le _, rfl, rfl, Nat.zero_le _, rfl⟩
    case round =>
      obtain ⟨rfl, i, c, rfl, hi, rfl, rfl, hc, hC⟩ := hrel
      by_cases hin : i < n
      · have hiz : (i : Int) < n := by omega
        obtain ⟨xb, xo, hxa, hxc⟩ := hx5
        obtain rfl := hxa (by omega)
        have ci := hxc i hin
        have hrun := run_mul_some (P := Try.prog) (hq i hin) 23
        have ni := ax.1 i hin
        clear hxa hquo e2 e3 oe z0 z1 hb5' HA has
        go_wp2_with fail
        go_loopg [23, 26] n (fun g cv jv wx => wx = wr ∧ ∃ j c : Nat, g = n - j ∧ j ≤ n ∧ jv = .int .i64 j ∧ cv = .int .i64 c ∧ c ≤ 33562624 ∧ Hid (c = offAll (fun i => key (Q i)) (fun i => key (X i)) n i + offRow (fun i => key (Q i)) (fun i => key (X i)) i j))
        case atStart => exact ⟨rfl, 0, c, rfl, Nat.zero_le _, rfl, rfl, by omega, hC.out⟩
        case round =>
          obtain ⟨rfl, j, c2, rfl, hj, rfl, rfl, hc2, hC2⟩ := hrel
          by_cases hjn : j < n
          · have hjz : (j : Int) < n := by omega
            have cj := hxc j hjn
            have nj := ay.1 j hjn
            clear hxc hrun ci
            by_cases hji : j = i
            · have hb : ((j : Int) == (i : Int)) = true := by simp; omega
              have hC3 : Hid (c2 = offAll (fun i => key (Q i)) (fun i => key (X i)) n i + offRow (fun i => key (Q i)) (fun i => key (X i)) i (j + 1)) := off_same hC2.out hji
              clear hji
              go_wp2
              go_roundg (n - (j + 1))
              case measure => omega
              case rel => exact ⟨rfl, j + 1, c2, rfl, by omega, by go_num, rfl, hc2, hC3.out⟩
            · have hb : ((j : Int) == (i : Int)) = false := by simp; omega
              rcases Int.lt_trichotomy (key (Q i)) (key (X j)) with hcmp | hcmp | hcmp
              · have o1 := order_gt nj ni hcmp
                have hC3 : Hid (c2 + 2 = offAll (fun i => key (Q i)) (fun i => key (X i)) n i + offRow (fun i => key (Q i)) (fun i => key (X i)) i (j + 1)) := off_add hC2.out hji (wgt_lt hcmp)
                go_wp2
                go_roundg (n - (j + 1))
                case measure => omega
                case rel => exact ⟨rfl, j + 1, c2 + 2, rfl, by omega, by go_num, by go_num, off_small hC3.out (by omega) (by omega) (by omega), hC3.out⟩
              · have o1 := order_eq nj ni hcmp.symm
                have hC3 : Hid (c2 + 1 = offAll (fun i => key (Q i)) (fun i => key (X i)) n i + offRow (fun i => key (Q i)) (fun i => key (X i)) i (j + 1)) := off_add hC2.out hji (wgt_eq hcmp)
                clear hcmp
                go_wp2
                go_roundg (n - (j + 1))
                case measure => omega
                case rel => exact ⟨rfl, j + 1, c2 + 1, rfl, by omega, by go_num, by go_num, off_small hC3.out (by omega) (by omega) (by omega), hC3.out⟩
              · have o1 := order_lt nj ni hcmp
                have hC3 : Hid (c2 = offAll (fun i => key (Q i)) (fun i => key (X i)) n i + offRow (fun i => key (Q i)) (fun i => key (X i)) i (j + 1)) := off_zero hC2.out hji (wgt_gt hcmp)
                go_wp2
                go_roundg (n - (j + 1))
                case measure => omega
                case rel => exact ⟨rfl, j + 1, c2, rfl, by omega, by go_num, rfl, hc2, hC3.out⟩
          · have hjz : ¬ (j : Int) < n := by omega
            have hC3 : Hid (c2 = offAll (fun i => key (Q i)) (fun i => key (X i)) n (i + 1)) := by
              have hjn' : j = n := by omega
              rw [hjn'] at hC2; exact hC2.out
            clear hC2 hxc hrun ci
            go_wp2
            go_roundg (n - (i + 1))
            case measure => omega
            case rel => exact ⟨rfl, i + 1, c2, rfl, by omega, by go_num, rfl, offA_small hC3.out (by omega) (by omega), hC3.out⟩
      · have hiz : ¬ (i : Int) < n := by omega
        have hca : c = a := by
          have hin' : i = n := by omega
          rw [hin'] at hC; rw [hC.out, HA.out]
        subst hca
        clear hC HA hx5
        cases liw
        all_goals
          go_wp2
          go_ret
          exact ⟨rfl, hb5'⟩
  · have h2z : ¬ (2 : Int) ≤ n := by omega
    have h2z' : (n : Int) < 2 := by omega
    have o0 := order00
    go_wp2_with fail
    refine (copy_any xa n xc X w2 (by omega) hx).mono ?_
    rintro e w3 ⟨xa', xc', rfl, hx3, hb3⟩
    clear hx hx3
    go_wp2_with fail
    refine (zz_few mn lv mi liw rt mr mg ms xa' n xc' _ (by omega)).mono ?_
    rintro e w4 ⟨rfl, hb4⟩
    go_wp2
    go_ret
    exact ⟨rfl, (hb3.alloc hb3.size _).trans (hb4.mono (by have := hb3.size; simp; omega))⟩
end Go.Proofs.Qxb6602837a
