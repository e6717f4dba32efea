/- mannWhitney and ZZmannWhitney. -/
import Derived.Test.Qxb6602837aAdd
import Derived.Deep.DeepCutAuto
import Derived.Deep.CutBlock
namespace Go.Proofs.Qxb6602837a
open Go.RowKit
attribute [local go_sem] run_store_float

theorem fl_zero : fl 0 = 0 := by unfold fl W; decide

/-- Where the walk stands: at i and j, the sums as they are due. -/
structure Mid (kx ky : Nat → Int) (n m : Nat) (w wr : World) (i j T : Nat) : Prop where
  at_ : At kx n ky m i j
  below : Below w.heap.size w wr
  row : wr.rowIs w.heap.size 41 4 (rk (pairs kx ky i j) T (i + j) i)
  sum : T + sqs kx n ky m i j = (i + j) * (i + j) * (i + j)

theorem mid_start (kx ky : Nat → Int) (n m : Nat) (w : World) : Mid kx ky n m w (w.alloc (.cells #[.float .f64 0, .float .f64 0, .int .i64 0, .int .i64 0] 41)) 0 0 0 :=
  ⟨at_start .., (Below.refl _ _).alloc (Nat.le_refl _) _, World.rowIs_alloc w #[.float .f64 0, .float .f64 0, .int .i64 0, .int .i64 0] 41 _ (fun i hi => by
      have hi4 : i < 4 := hi
      have h0 : pairs kx ky 0 0 = 0 := rfl
      rcases (show i = 0 ∨ i = 1 ∨ i = 2 ∨ i = 3 by omega) with rfl | rfl | rfl | rfl <;> simp [rk, h0, fl_zero]), rfl⟩

theorem asc_sorted {n : Nat} {Q : Nat → Nat} (h : Asc n Q) : Sorted (fun i => key (Q i)) n := sorted_of h.2

theorem grp_of {n m i j p r V : Nat} {Q Yb : Nat → Nat} (hV : (i < n → key V ≤ key (Q i)) ∧ (j < m → key V ≤ key (Yb j)) ∧ ((i < n ∧ key V = key (Q i)) ∨ (j < m ∧ key V = key (Yb j))))
    (hP : (∀ a, i ≤ a → a < p → key (Q a) = key V) ∧ (p = n ∨ key (Q p) ≠ key V)) (hR : (∀ a, j ≤ a → a < r → key (Yb a) = key V) ∧ (r = m ∨ key (Yb r) ≠ key V))
    (hp1 : i ≤ p) (hp2 : p ≤ n) (hr1 : j ≤ r) (hr2 : r ≤ m) : Grp (fun i => key (Q i)) n (fun j => key (Yb j)) m i j (key V) (p - i) (r - j) := by
  have e1 : i + (p - i) = p := by omega
  have e2 : j + (r - j) = r := by omega
  exact ⟨by omega, by omega, fun a ha => hP.1 _ (by omega) (by omega), fun a ha => hR.1 _ (by omega) (by omega), hV.1, hV.2.1, by rw [e1]; exact hP.2, by rw [e2]; exact hR.2, hV.2.2⟩

/-- The group is not empty. -/
theorem grp_moves {n m i j p r V : Nat} {Q Yb : Nat → Nat} (hV : (i < n ∧ key V = key (Q i)) ∨ (j < m ∧ key V = key (Yb j)))
    (hP : p = n ∨ key (Q p) ≠ key V) (hR : r = m ∨ key (Yb r) ≠ key V) (hp1 : i ≤ p) (hr1 : j ≤ r) : i < p ∨ j < r := by
  rcases hV with ⟨h1, h2⟩ | ⟨h1, h2⟩
  · by_cases e : p = i
    · subst e
      rcases hP with h | h
      · omega
      · exact absurd h2.symm h
    · omega
  · by_cases e : r = j
    · subst e
      rcases hR with h | h
      · omega
      · exact absurd h2.symm h
    · omega

theorem mid_next {kx ky : Nat → Int} {n m i j T tx ty : Nat} {v : Int} {w wr w1 : World} {q : Nat} (h : Mid kx ky n m w wr i j T) (sx : Sorted kx n) (sy : Sorted ky m) (g : Grp kx n ky m i j v tx ty)
    (hr : w1.rowIs w.heap.size 41 4 (rk (pairs kx ky i j + ty * (2 * i + tx)) (T + 3 * (i + j) * (tx + ty) * (i + j + (tx + ty))) (i + j + (tx + ty)) (i + tx))) (hb : Below w.heap.size (wr.drewN q) w1) :
    Mid kx ky n m w w1 (i + tx) (j + ty) (T + 3 * (i + j) * (tx + ty) * (i + j + (tx + ty))) := by
  refine ⟨at_step h.at_ sx sy g, (below_drewN h.below q).trans hb, ?_, ?_⟩
  · rw [pairs_step h.at_ g, show i + tx + (j + ty) = i + j + (tx + ty) by omega]; exact hr
  · rw [sqs_step h.at_ sx sy g, show i + tx + (j + ty) = i + j + (tx + ty) by omega, ← cube_step, ← h.sum]; omega

theorem mid_bounds {kx ky : Nat → Int} {n m i j T tx ty : Nat} {v : Int} {w wr : World} (h : Mid kx ky n m w wr i j T) (g : Grp kx n ky m i j v tx ty) (hn : n ≤ 4096) (hm : m ≤ 4096) :
    i + j + (tx + ty) ≤ 8192 ∧ i + tx ≤ 4096 ∧ ty ≤ 4096 ∧ pairs kx ky i j + ty * (2 * i + tx) < 2 ^ 53 ∧ T + 3 * (i + j) * (tx + ty) * (i + j + (tx + ty)) < 2 ^ 53 ∧ 3 * (i + j) * (tx + ty) < 2 ^ 53 := by
  have g1 := g.hx
  have g2 := g.hy
  have p1 := pairs_le kx ky (i + tx) (j + ty)
  rw [pairs_step h.at_ g] at p1
  have p2 : (j + ty) * ((i + tx) * 2) ≤ 4096 * (4096 * 2) := Nat.mul_le_mul (by omega) (by omega)
  have s1 : i + j + (tx + ty) ≤ 8192 := by omega
  have q1 : T + 3 * (i + j) * (tx + ty) * (i + j + (tx + ty)) ≤ (i + j + (tx + ty)) * (i + j + (tx + ty)) * (i + j + (tx + ty)) := by
    rw [← cube_step, ← h.sum]; omega
  have q2 : (i + j + (tx + ty)) * (i + j + (tx + ty)) * (i + j + (tx + ty)) ≤ 8192 * 8192 * 8192 := Nat.mul_le_mul (Nat.mul_le_mul s1 s1) s1
  have q3 : 3 * (i + j) * (tx + ty) ≤ 3 * 8192 * 8192 := Nat.mul_le_mul (by omega) (by omega)
  exact ⟨s1, by omega, by omega, by omega, by omega, by omega⟩

def MwPost (kx ky : Nat → Int) (n m : Nat) (w : World) (e : Ending) (w' : World) : Prop :=
  ∃ T : Nat, e = .returned (.tuple #[.float .f64 (fl (pairs kx ky n m)), .float .f64 (fl T)]) ∧ T + sqs kx n ky m n m = (n + m) * (n + m) * (n + m) ∧ Below w.heap.size w w'

set_option maxHeartbeats 1000000 in
set_option maxRecDepth 100000 in
theorem mann_any (xa : Option Addr) (n xc : Nat) (s : Nat) (ya : Option Addr) (m yc : Nat) (X Q Yb : Nat → Nat) (w : World) (hn : n ≤ 4096) (hm : m ≤ 4096) (hx : FAt w xa n X) (hy : FAt w ya m Yb) (hq : Prods n s X Q) (ax : Asc n Q) (ay : Asc m Yb) :
    Calls Try.prog 21 #[.slice xa n xc, .float .f64 s, .slice ya m yc] w fun e w' => MwPost (fun i => key (Q i)) (fun j => key (Yb j)) n m w e w' := by
  obtain ⟨xb, xo, hxa, hxc⟩ := hx
  obtain ⟨yb, yo, hya, hyc⟩ := hy
  go_enter Try.func21, Try.ntmps21
  go_wp2
  go_loopg [9, 10] (n + m) (fun g iv jv wr => ∃ i j T : Nat, g = n - i + (m - j) ∧ iv = .int .i64 i ∧ jv = .int .i64 j ∧ Mid (fun i => key (Q i)) (fun j => key (Yb j)) n m w wr i j T)
  case atStart => exact ⟨0, 0, 0, rfl, rfl, rfl, mid_start ..⟩
  case round =>
    obtain ⟨i, j, T, rfl, rfl, rfl, hM⟩ := hrel
    have hi := hM.at_.hi
    have hj := hM.at_.hj
    by_cases hgo : i < n ∨ j < m
    · have hgo' : (i : Int) < n ∨ (¬ (i : Int) < n ∧ (j : Int) < m) := by omega
      have hcx : ∀ a, a < n → wr.cell? ⟨xb, xo + a, none⟩ = some (.float .f64 (X a)) := fun a ha => by
        rw [hM.below.cell (p := ⟨xb, xo + a, none⟩) (World.block_lt_of_cell? _ _ (hxc a ha))]; exact hxc a ha
      have hcy : ∀ a, a < m → wr.cell? ⟨yb, yo + a, none⟩ = some (.float .f64 (Yb a)) := fun a ha => by
        rw [hM.below.cell (p := ⟨yb, yo + a, none⟩) (World.block_lt_of_cell? _ _ (hyc a ha))]; exact hyc a ha
      clear hxc hyc
      rcases hgo' with hz | ⟨hz, hjz⟩
      all_goals
        go_upto_block 2 with fail
        go_cut [11] (fun s11 wx => ∃ V q : Nat, s11 = .float .f64 V ∧ wx = wr.drewN q ∧ Hid (num V ∧ (i < n → key V ≤ key (Q i)) ∧ (j < m → key V ≤ key (Yb j)) ∧ ((i < n ∧ key V = key (Q i)) ∨ (j < m ∧ key V = key (Yb j)))))
        case first =>
          by_cases hin : i < n
          · obtain rfl := hxa (by omega)
            have ci := hcx i hin
            have e1 : ((i : Int) == (n : Int)) = false := by simp; omega
            have hrun := run_mul_some (P := Try.prog) (hq i hin) 23
            have nq1 := ax.1 i hin
            by_cases hjm : j < m
            · obtain rfl := hya (by omega)
              have cj := hcy j hjm
              have e2 : ((j : Int) == (m : Int)) = false := by simp; omega
              have nq2 := ay.1 j hjm
              clear hcx hcy hxa hya
              rcases Int.lt_trichotomy (key (Q i)) (key (Yb j)) with hcmp | hcmp | hcmp
              · have o1 := order_lt nq1 nq2 hcmp
                go_wp2_with fail
                go_quiet (fail)
                go_wp2
                go_meet
                exact ⟨_, _, rfl, rfl, nq1, fun _ => Int.le_refl _, fun _ => by omega, .inl ⟨hin, rfl⟩⟩
              · have o1 := order_eq nq1 nq2 hcmp
                have HC : Hid (key (Q i) = key (Yb j)) := hcmp
                clear hcmp
                go_wp2_with fail
                go_quiet (fail)
                go_wp2
                go_meet
                exact ⟨_, _, rfl, rfl, nq1, fun _ => Int.le_refl _, fun _ => by have := HC.out; omega, .inl ⟨hin, rfl⟩⟩
              · have o1 := order_gt nq1 nq2 hcmp
                go_wp2_with fail
                go_quiet (fail)
                go_wp2
                go_meet
                exact ⟨_, _, rfl, rfl, nq2, fun _ => by omega, fun _ => Int.le_refl _, .inr ⟨hjm, rfl⟩⟩
            · have e2 : ((j : Int) == (m : Int)) = true := by simp; omega
              clear hcx hcy hxa hya
              go_wp2_with fail
              go_quiet (fail)
              go_wp2
              go_meet
              exact ⟨_, _, rfl, rfl, nq1, fun _ => Int.le_refl _, fun h => absurd h hjm, .inl ⟨hin, rfl⟩⟩
          · obtain rfl := hya (by omega)
            have e1 : ((i : Int) == (n : Int)) = true := by simp; omega
            have cj := hcy j (by omega)
            clear hcx hcy hxa hya
            go_wp2
            go_meet
            exact ⟨_, 0, rfl, rfl, ay.1 j (by omega), fun h => absurd h hin, fun _ => Int.le_refl _, .inr ⟨by omega, rfl⟩⟩
        case rest =>
          obtain ⟨V, q, rfl, rfl, hV⟩ := hcut
          clear hz
          go_upto_block 3 with fail
          go_cut [9] (fun s9 wx => ∃ p : Nat, s9 = .int .i64 p ∧ wx = wr.drewN q ∧ i ≤ p ∧ p ≤ n ∧ Hid ((∀ a, i ≤ a → a < p → key (Q a) = key V) ∧ (p = n ∨ key (Q p) ≠ key V)))
          case first =>
            go_wp2_with fail
            go_loopg [9] (n - i) (fun g s9 wx => ∃ p : Nat, g = n - p ∧ s9 = .int .i64 p ∧ wx = wr.drewN q ∧ i ≤ p ∧ p ≤ n ∧ Hid (∀ a, i ≤ a → a < p → key (Q a) = key V))
            case atStart => exact ⟨i, rfl, rfl, rfl, Nat.le_refl _, hi, fun a h1 h2 => by omega⟩
            case round =>
              obtain ⟨p, rfl, rfl, rfl, hp1, hp2, hP⟩ := hrel
              by_cases hpn : p < n
              · obtain rfl := hxa (by omega)
                have hpz : (p : Int) < n := by omega
                have cp := hcx p hpn
                have hrun := run_mul_some (P := Try.prog) (hq p hpn) 23
                have np := ax.1 p hpn
                clear hcx hcy hxa hya
                rcases Int.lt_trichotomy (key (Q p)) (key V) with hcmp | hcmp | hcmp
                · have o1 := order_lt np hV.1 hcmp
                  go_wp2
                  go_meet
                  exact ⟨p, rfl, rfl, hp1, hp2, hP.out, .inr (by omega)⟩
                · have o1 := order_eq np hV.1 hcmp
                  have HC : Hid (key (Q p) = key V) := hcmp
                  clear hcmp
                  go_wp2
                  go_roundg (n - (p + 1))
                  case measure => omega
                  case rel => exact ⟨p + 1, rfl, by go_num, rfl, by omega, by omega, fun a h1 h2 => by
                    by_cases e : a = p
                    · subst e; exact HC.out
                    · exact hP a h1 (by omega)⟩
                · have o1 := order_gt np hV.1 hcmp
                  go_wp2
                  go_meet
                  exact ⟨p, rfl, rfl, hp1, hp2, hP.out, .inr (by omega)⟩
              · have hpz : ¬ (p : Int) < n := by omega
                clear hcx hcy hxa hya
                go_wp2
                go_meet
                exact ⟨p, rfl, rfl, hp1, hp2, hP.out, .inl (by omega)⟩
          case rest =>
            obtain ⟨p, rfl, rfl, hp1, hp2, hP⟩ := hcut
            go_upto_block 5 with fail
            go_cut [10] (fun s10 wx => ∃ r : Nat, s10 = .int .i64 r ∧ wx = wr.drewN q ∧ j ≤ r ∧ r ≤ m ∧ Hid ((∀ a, j ≤ a → a < r → key (Yb a) = key V) ∧ (r = m ∨ key (Yb r) ≠ key V)))
            case first =>
              go_wp2_with fail
              go_loopg [10] (m - j) (fun g s10 wx => ∃ r : Nat, g = m - r ∧ s10 = .int .i64 r ∧ wx = wr.drewN q ∧ j ≤ r ∧ r ≤ m ∧ Hid (∀ a, j ≤ a → a < r → key (Yb a) = key V))
              case atStart => exact ⟨j, rfl, rfl, rfl, Nat.le_refl _, hj, fun a h1 h2 => by omega⟩
              case round =>
                obtain ⟨r, rfl, rfl, rfl, hr1, hr2, hR⟩ := hrel
                by_cases hrm : r < m
                · obtain rfl := hya (by omega)
                  have hrz : (r : Int) < m := by omega
                  have cr := hcy r hrm
                  have nr := ay.1 r hrm
                  clear hcx hcy hxa hya
                  rcases Int.lt_trichotomy (key (Yb r)) (key V) with hcmp | hcmp | hcmp
                  · have o1 := order_lt nr hV.1 hcmp
                    go_wp2
                    go_meet
                    exact ⟨r, rfl, rfl, hr1, hr2, hR.out, .inr (by omega)⟩
                  · have o1 := order_eq nr hV.1 hcmp
                    have HC : Hid (key (Yb r) = key V) := hcmp
                    clear hcmp
                    go_wp2
                    go_roundg (m - (r + 1))
                    case measure => omega
                    case rel => exact ⟨r + 1, rfl, by go_num, rfl, by omega, by omega, fun a h1 h2 => by
                      by_cases e : a = r
                      · subst e; exact HC.out
                      · exact hR a h1 (by omega)⟩
                  · have o1 := order_gt nr hV.1 hcmp
                    go_wp2
                    go_meet
                    exact ⟨r, rfl, rfl, hr1, hr2, hR.out, .inr (by omega)⟩
                · have hrz : ¬ (r : Int) < m := by omega
                  clear hcx hcy hxa hya
                  go_wp2
                  go_meet
                  exact ⟨r, rfl, rfl, hr1, hr2, hR.out, .inl (by omega)⟩
            case rest =>
              obtain ⟨r, rfl, rfl, hr1, hr2, hR⟩ := hcut
              clear hcx hcy hxa hya
              have sx := asc_sorted ax
              have sy := asc_sorted ay
              have hG := grp_of hV.out.2 hP.out hR.out hp1 hp2 hr1 hr2
              have hmv := grp_moves hV.out.2.2.2 hP.out.2 hR.out.2 hp1 hr1
              obtain ⟨b1, b2, b3, b4, b5, b6⟩ := mid_bounds hM hG hn hm
              go_wp2_with fail
              rw [show (p : Int) - (i : Int) = ((p - i : Nat) : Int) by omega, show (r : Int) - (j : Int) = ((r - j : Nat) : Int) by omega]
              refine (add_any w.heap.size _ T (i + j) i (p - i) (r - j) (wr.drewN q) hM.row b1 b2 b3 b4 b5 b6).mono ?_
              rintro e w1 ⟨rfl, hrow, hbel⟩
              have hM1 := mid_next hM sx sy hG hrow hbel
              rw [show i + (p - i) = p by omega, show j + (r - j) = r by omega] at hM1
              clear hG hrow hbel hM b1 b2 b3 b4 b5 b6 sx sy
              go_wp2
              go_roundg (n - p + (m - r))
              case measure => omega
              case rel => exact ⟨p, r, _, rfl, rfl, rfl, hM1⟩
    · have hz : ¬ (i : Int) < n := by omega
      have hjz : ¬ (j : Int) < m := by omega
      have g0 : wr.cell? ⟨w.heap.size, 0, none⟩ = some (.float .f64 (fl (pairs (fun i => key (Q i)) (fun j => key (Yb j)) i j))) := hM.row.cell (i := 0) (by omega)
      have g1 : wr.cell? ⟨w.heap.size, 1, none⟩ = some (.float .f64 (fl T)) := hM.row.cell (i := 1) (by omega)
      have Hin : Hid (i = n ∧ j = m) := ⟨by omega, by omega⟩
      clear hxa hxc hya hyc
      go_wp2_with fail
      go_quiet (fail)
      go_wp2
      go_ret2
      obtain ⟨e1, e2⟩ := Hin.out
      subst e1; subst e2
      exact ⟨T, rfl, hM.sum, below_drewN hM.below _⟩

theorem zz_mann (xa : Option Addr) (n xc : Nat) (s : Nat) (ya : Option Addr) (m yc : Nat) (X Q Yb : Nat → Nat) (w : World) (hn : n ≤ 4096) (hm : m ≤ 4096) (hx : FAt w xa n X) (hy : FAt w ya m Yb) (hq : Prods n s X Q) (ax : Asc n Q) (ay : Asc m Yb) :
    Calls Try.prog 12 #[.slice xa n xc, .float .f64 s, .slice ya m yc] w fun e w' => MwPost (fun i => key (Q i)) (fun j => key (Yb j)) n m w e w' := by
  go_enter Try.func12, Try.ntmps12
  go_wp2_with fail
  refine (mann_any xa n xc s ya m yc X Q Yb w hn hm hx hy hq ax ay).mono ?_
  rintro e w1 ⟨T, rfl, hT, hb⟩
  have HT : Hid (T + sqs (fun i => key (Q i)) n (fun j => key (Yb j)) m n m = (n + m) * (n + m) * (n + m)) := hT
  clear hT
  go_wp2
  go_ret2
  exact ⟨T, rfl, HT.out, hb⟩
end Go.Proofs.Qxb6602837a
