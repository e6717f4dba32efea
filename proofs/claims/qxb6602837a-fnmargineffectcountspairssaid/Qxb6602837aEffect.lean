/- marginEffect and ZZmarginEffect. -/
import Derived.Test.Qxb6602837aEff
namespace Go.Proofs.Qxb6602837a
open Go.RowKit
attribute [local go_sem] run_store_float

theorem sumN_mem {n j : Nat} (f : Nat → Nat) (h : j < n) : f j ≤ sumN n f := by
  induction n with
  | zero => omega
  | succ n ih =>
    rw [sumN_succ]
    by_cases e : j = n
    · subst e; omega
    · have := ih (by omega); omega

theorem sumN_less {n k : Nat} (f : Nat → Nat) (h : k ≤ n) : sumN k f ≤ sumN n f := by
  obtain ⟨r, rfl⟩ : ∃ r, n = k + r := ⟨n - k, by omega⟩
  rw [sumN_split]; omega

theorem sumN_le_sumN {n : Nat} {f g : Nat → Nat} (h : ∀ a, a < n → f a ≤ g a) : sumN n f ≤ sumN n g := by
  induction n with
  | zero => exact Nat.le_refl _
  | succ n ih => rw [sumN_succ, sumN_succ]; have := ih (fun a ha => h a (by omega)); have := h n (by omega); omega

/-- A sample against itself. -/
def self (S K : Nat → Int) (n : Nat) : Nat := sumN n (fun i => wgt (S i) (K i))

theorem self_le (S K : Nat → Int) (n : Nat) : self S K n ≤ pairs S K n n :=
  sumN_le_sumN fun j hj => sumN_mem (fun a => wgt (S a) (K j)) hj

theorem self_room {S K : Nat → Int} {n k a : Nat} (h : a + self S K k = pairs S K n n) (hk : k < n) : wgt (S k) (K k) ≤ a := by
  have h1 := self_le S K n
  have h2 := sumN_less (fun i => wgt (S i) (K i)) (show k + 1 ≤ n by omega)
  have h3 : sumN (k + 1) (fun i => wgt (S i) (K i)) = self S K k + wgt (S k) (K k) := rfl
  have h4 : sumN n (fun i => wgt (S i) (K i)) = self S K n := rfl
  omega

theorem self_step {S K : Nat → Int} {n k a d : Nat} (h : a + self S K k = pairs S K n n) (hd : wgt (S k) (K k) = d) (hda : d ≤ a) : a - d + self S K (k + 1) = pairs S K n n := by
  have h3 : self S K (k + 1) = self S K k + wgt (S k) (K k) := rfl
  omega

theorem self_stay {S K : Nat → Int} {n k a : Nat} (h : a + self S K k = pairs S K n n) (hd : wgt (S k) (K k) = 0) : a + self S K (k + 1) = pairs S K n n := by
  have h3 : self S K (k + 1) = self S K k + wgt (S k) (K k) := rfl
  omega

def MePost (S K : Nat → Int) (n : Nat) (liw : Bool) (w : World) (e : Ending) (w' : World) : Prop :=
  ∃ a : Nat, e = .returned (.float .f64 (effB liw a (2 * n * (n - 1)))) ∧ a + self S K n = pairs S K n n ∧ Below w.heap.size w w'

theorem blk_cell {w : World} {b : Nat} {c : Array Value} {t : TypeId} (h : w.heap[b]? = some (.cells c t (0, 0))) (i : Nat) : w.cell? ⟨b, i, none⟩ = c[i]? := by
  simp [World.cell?, h]

set_option maxHeartbeats 400000 in
theorem margin_few (mn : Int) (lv mi : Nat) (liw rt : Bool) (mr mg ms : Nat) (xa : Option Addr) (n xc : Nat) (w : World) (h2 : n < 2) :
    Calls Try.prog 22 #[.agg #[.int .i64 mn, .float .f64 lv, .float .f64 mi, .bool liw, .bool rt, .float .f64 mr, .float .f64 mg, .float .f64 ms], .slice xa n xc] w fun e w' => FbPost 0 w e w' := by
  have hz : (n : Int) < 2 := by omega
  go_enter Try.func22, Try.ntmps22
  go_wp2
  go_ret
  exact ⟨rfl, (Below.refl _ _).alloc (Nat.le_refl _) _⟩

set_option maxHeartbeats 1000000 in
set_option maxRecDepth 100000 in
theorem margin_many (mn : Int) (lv mi : Nat) (liw rt : Bool) (mr mg ms : Nat) (xa : Option Addr) (n xc : Nat) (X Q : Nat → Nat) (w : World) (h2 : 2 ≤ n) (hn : n ≤ 4096) (hmg : num mg) (hx : FAt w xa n X) (hq : Prods n (scaleOf liw mg) X Q) (ax : Asc n Q) (ay : Asc n X) :
    Calls Try.prog 22 #[.agg #[.int .i64 mn, .float .f64 lv, .float .f64 mi, .bool liw, .bool rt, .float .f64 mr, .float .f64 mg, .float .f64 ms], .slice xa n xc] w
      fun e w' => MePost (fun i => key (Q i)) (fun i => key (X i)) n liw w e w' := by
  have hz : ¬ (n : Int) < 2 := by omega
  go_enter Try.func22, Try.ntmps22
  go_wp2_with fail
  refine (marginScale_any mn lv mi liw rt mr mg ms _ hmg).mono ?_
  rintro e w2 ⟨rfl, hb2⟩
  have hblk : (w.alloc (.cells #[.int .i64 mn, .float .f64 lv, .float .f64 mi, .bool liw, .bool rt, .float .f64 mr, .float .f64 mg, .float .f64 ms] 35)).heap[w.heap.size]? = some (.cells #[.int .i64 mn, .float .f64 lv, .float .f64 mi, .bool liw, .bool rt, .float .f64 mr, .float .f64 mg, .float .f64 ms] 35 (0, 0)) := heap_alloc_new _ _
  have hb1 : Below w.heap.size w (w.alloc (.cells #[.int .i64 mn, .float .f64 lv, .float .f64 mi, .bool liw, .bool rt, .float .f64 mr, .float .f64 mg, .float .f64 ms] 35)) := (Below.refl _ _).alloc (Nat.le_refl _) _
  have hb2' := hb1.trans (hb2.mono hb1.size)
  have hx2 := fat_below hx hb2'
  have hblk2 := (hb2.block w.heap.size (by simp)).trans hblk
  have hs2 : w.heap.size < w2.heap.size := by have := hb2.size; simp at this; omega
  clear hb1 hb2 hblk hx
  go_wp2_with fail
  refine (mann_any xa n xc _ xa n xc X Q X w2 hn hn hx2 hx2 hq ax ay).mono ?_
  rintro e w3 ⟨T, rfl, _, hb3⟩
  have hx3 := fat_below hx2 hb3
  have hb3' := hb2'.trans (hb3.mono hb2'.size)
  have hblk3 := (hb3.block w.heap.size hs2).trans hblk2
  have c0 := blk_cell hblk3 0
  have c1 := blk_cell hblk3 1
  have c2 := blk_cell hblk3 2
  have c3 := blk_cell hblk3 3
  have c4 := blk_cell hblk3 4
  have c5 := blk_cell hblk3 5
  have c6 := blk_cell hblk3 6
  have c7 := blk_cell hblk3 7
  simp at c0 c1 c2 c3 c4 c5 c6 c7
  clear hb3 hb2' hblk3 hblk2 hx2 hs2
  obtain ⟨U, hU⟩ : ∃ U, U = pairs (fun i => key (Q i)) (fun i => key (X i)) n n := ⟨_, rfl⟩
  have hUs := pairs_small hU hn hn
  rw [← hU]
  have HU : Hid (U = pairs (fun i => key (Q i)) (fun i => key (X i)) n n) := hU
  clear hU
  go_wp2_with fail
  go_loopg [6, 25] n (fun g uv kv wx => wx = w3 ∧ ∃ k a : Nat, g = n - k ∧ k ≤ n ∧ kv = .int .i64 k ∧ uv = .float .f64 (fl a) ∧ a ≤ 33554432 ∧ Hid (a + self (fun i => key (Q i)) (fun i => key (X i)) k = pairs (fun i => key (Q i)) (fun i => key (X i)) n n))
  case atStart => exact ⟨rfl, 0, U, rfl, Nat.zero_le _, rfl, rfl, hUs, HU.out⟩
  case round =>
    obtain ⟨rfl, k, a, rfl, hk, rfl, rfl, ha, hA⟩ := hrel
    by_cases hlt : k < n
    · obtain ⟨xb, xo, hxa, hxc⟩ := hx3
      obtain rfl := hxa (by omega)
      have hkz : (k : Int) < n := by omega
      have ck := hxc k hlt
      have hrun := run_mul_some (P := Try.prog) (hq k hlt) 23
      have nq := ax.1 k hlt
      have nx := ay.1 k hlt
      have hroom := self_room hA.out hlt
      clear hxc hxa c0 c1 c2 c3 c4 c5 c6 c7 hb3' HU
      rcases Int.lt_trichotomy (key (Q k)) (key (X k)) with hcmp | hcmp | hcmp
      · have o1 := order_gt nx nq hcmp
        have hw := wgt_lt hcmp
        have hA' : Hid (a - 2 + self (fun i => key (Q i)) (fun i => key (X i)) (k + 1) = pairs (fun i => key (Q i)) (fun i => key (X i)) n n) := self_step hA.out hw (by rw [← hw]; exact hroom)
        have hsub : ∀ t w, (binOp .sub t (.float .f64 (fl a)) (.float .f64 4611686018427387904)).run Try.prog w = .ok (.float .f64 (fl (a - 2))) w := by
          intro t w
          rw [twoEq]; exact run_sub_fl (by omega) (by rw [← hw]; exact hroom) t w
        clear hw hroom
        go_wp2
        go_roundg (n - (k + 1))
        case measure => omega
        case rel => exact ⟨rfl, k + 1, a - 2, rfl, by omega, by go_num, rfl, by omega, hA'.out⟩
      · have o1 := order_eq nx nq hcmp.symm
        have hw := wgt_eq hcmp
        have hA' : Hid (a - 1 + self (fun i => key (Q i)) (fun i => key (X i)) (k + 1) = pairs (fun i => key (Q i)) (fun i => key (X i)) n n) := self_step hA.out hw (by rw [← hw]; exact hroom)
        have hsub : ∀ t w, (binOp .sub t (.float .f64 (fl a)) (.float .f64 4607182418800017408)).run Try.prog w = .ok (.float .f64 (fl (a - 1))) w := by
          intro t w
          rw [oneFl]; exact run_sub_fl (by omega) (by rw [← hw]; exact hroom) t w
        clear hw hroom hcmp
        go_wp2
        go_roundg (n - (k + 1))
        case measure => omega
        case rel => exact ⟨rfl, k + 1, a - 1, rfl, by omega, by go_num, rfl, by omega, hA'.out⟩
      · have o1 := order_lt nx nq hcmp
        have hA' : Hid (a + self (fun i => key (Q i)) (fun i => key (X i)) (k + 1) = pairs (fun i => key (Q i)) (fun i => key (X i)) n n) := self_stay hA.out (wgt_gt hcmp)
        clear hroom
        go_wp2
        go_roundg (n - (k + 1))
        case measure => omega
        case rel => exact ⟨rfl, k + 1, a, rfl, by omega, by go_num, rfl, ha, hA'.out⟩
    · have hkz : ¬ (k : Int) < n := by omega
      have hA' : Hid (a + self (fun i => key (Q i)) (fun i => key (X i)) n = pairs (fun i => key (Q i)) (fun i => key (X i)) n n) := by
        have hkn : k = n := by omega
        rw [hkn] at hA; exact hA.out
      clear hA HU hx3
      go_wp2_with fail
      refine (effect_any mn lv mi liw rt mr mg ms a n wr h2 hn (by omega)).mono ?_
      rintro e w4 ⟨rfl, hb4⟩
      go_wp2
      go_ret
      exact ⟨a, rfl, hA'.out, hb3'.trans (hb4.mono hb3'.size)⟩

theorem zz_few (mn : Int) (lv mi : Nat) (liw rt : Bool) (mr mg ms : Nat) (xa : Option Addr) (n xc : Nat) (w : World) (h2 : n < 2) :
    Calls Try.prog 17 #[.agg #[.int .i64 mn, .float .f64 lv, .float .f64 mi, .bool liw, .bool rt, .float .f64 mr, .float .f64 mg, .float .f64 ms], .slice xa n xc] w fun e w' => FbPost 0 w e w' := by
  go_enter Try.func17, Try.ntmps17
  go_wp2_with fail
  refine (margin_few mn lv mi liw rt mr mg ms xa n xc _ h2).mono ?_
  rintro e w2 ⟨rfl, hb2⟩
  go_wp2
  go_ret
  exact ⟨rfl, ((Below.refl _ _).alloc (Nat.le_refl _) _).trans (hb2.mono (by simp))⟩

theorem zz_many (mn : Int) (lv mi : Nat) (liw rt : Bool) (mr mg ms : Nat) (xa : Option Addr) (n xc : Nat) (X Q : Nat → Nat) (w : World) (h2 : 2 ≤ n) (hn : n ≤ 4096) (hmg : num mg) (hx : FAt w xa n X) (hq : Prods n (scaleOf liw mg) X Q) (ax : Asc n Q) (ay : Asc n X) :
    Calls Try.prog 17 #[.agg #[.int .i64 mn, .float .f64 lv, .float .f64 mi, .bool liw, .bool rt, .float .f64 mr, .float .f64 mg, .float .f64 ms], .slice xa n xc] w
      fun e w' => MePost (fun i => key (Q i)) (fun i => key (X i)) n liw w e w' := by
  go_enter Try.func17, Try.ntmps17
  go_wp2_with fail
  refine (margin_many mn lv mi liw rt mr mg ms xa n xc X Q _ h2 hn hmg (fat_below hx ((Below.refl _ _).alloc (Nat.le_refl _) _)) hq ax ay).mono ?_
  rintro e w2 ⟨a, rfl, hA, hb2⟩
  have HA : Hid (a + self (fun i => key (Q i)) (fun i => key (X i)) n = pairs (fun i => key (Q i)) (fun i => key (X i)) n n) := hA
  clear hA
  go_wp2
  go_ret
  exact ⟨a, rfl, HA.out, ((Below.refl _ _).alloc (Nat.le_refl _) _).trans (hb2.mono (by simp))⟩
end Go.Proofs.Qxb6602837a
