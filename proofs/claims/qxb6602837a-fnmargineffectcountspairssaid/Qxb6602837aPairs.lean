/- gateB1EqualCount, and the law that counts the pairs: the walks. -/
import Derived.Test.Qxb6602837aSwap
namespace Go.Proofs.Qxb6602837a
open Go.RowKit

theorem cnt_hit {X : Nat → Int} {k : Nat} {v : Int} (h : X k = v) : cnt X (k + 1) v = cnt X k v + 1 := by
  unfold cnt; rw [sumN_succ, if_pos h]
theorem cnt_miss {X : Nat → Int} {k : Nat} {v : Int} (h : X k ≠ v) : cnt X (k + 1) v = cnt X k v := by
  unfold cnt; rw [sumN_succ, if_neg h]; rfl

theorem cnt_hit1 {Q : Nat → Nat} {k c : Nat} {v : Int} (hC : c = cnt (fun i => key (Q i)) k v) (h : key (Q k) = v) : c + 1 = cnt (fun i => key (Q i)) (k + 1) v := by
  rw [cnt_hit (X := fun i => key (Q i)) h, hC]
theorem cnt_miss1 {Q : Nat → Nat} {k c : Nat} {v : Int} (hC : c = cnt (fun i => key (Q i)) k v) (h : key (Q k) ≠ v) : c = cnt (fun i => key (Q i)) (k + 1) v := by
  rw [cnt_miss (X := fun i => key (Q i)) h, hC]
theorem cnt_hit2 {Q : Nat → Nat} {k c c' : Nat} {v : Int} (hC : c' = c + cnt (fun i => key (Q i)) k v) (h : key (Q k) = v) : c' + 1 = c + cnt (fun i => key (Q i)) (k + 1) v := by
  rw [cnt_hit (X := fun i => key (Q i)) h, hC]; omega
theorem cnt_miss2 {Q : Nat → Nat} {k c c' : Nat} {v : Int} (hC : c' = c + cnt (fun i => key (Q i)) k v) (h : key (Q k) ≠ v) : c' = c + cnt (fun i => key (Q i)) (k + 1) v := by
  rw [cnt_miss (X := fun i => key (Q i)) h, hC]

theorem ret_int {k : IntKind} {a b : Int} (h : a = b) : Ending.returned (.int k a) = .returned (.int k b) := by rw [h]

/-- It answers this number, and nothing is written. -/
def NPost (c : Nat) (w : World) (e : Ending) (w' : World) : Prop := e = .returned (.int .i64 c) ∧ w' = w

set_option maxHeartbeats 1000000 in
theorem equal_count (V : Nat) (xa : Option Addr) (n xc : Nat) (s : Nat) (ya : Option Addr) (m yc : Nat) (X Q Yb : Nat → Nat) (w : World) (hn : n ≤ 4096) (hm : m ≤ 4096) (hx : FAt w xa n X) (hy : FAt w ya m Yb)
    (hq : Prods n s X Q) (ax : Asc n Q) (ay : Asc m Yb) (hV : num V) :
    Calls Try.prog 13 #[.float .f64 V, .slice xa n xc, .float .f64 s, .slice ya m yc] w fun e w' => NPost (eqs (fun i => key (Q i)) n (fun j => key (Yb j)) m (key V)) w e w' := by
  obtain ⟨xb, xo, hxa, hxc⟩ := hx
  obtain ⟨yb, yo, hya, hyc⟩ := hy
  go_enter Try.func13, Try.ntmps13
  go_wp2
  go_loopg [9, 10] n (fun g cv iv wx => wx = w ∧ ∃ k c : Nat, g = n - k ∧ k ≤ n ∧ iv = .int .i64 k ∧ cv = .int .i64 c ∧ c ≤ k ∧ Hid (c = cnt (fun i => key (Q i)) k (key V)))
  case atStart => exact ⟨rfl, 0, 0, rfl, Nat.zero_le _, rfl, rfl, Nat.le_refl _, rfl⟩
  case round =>
    obtain ⟨rfl, k, c, rfl, hk, rfl, rfl, hck, hC⟩ := hrel
    by_cases hlt : k < n
    · obtain rfl := hxa (by omega)
      have hz : (k : Int) < n := by omega
      have ck := hxc k hlt
      have hrun := run_mul_some (P := Try.prog) (hq k hlt) 23
      have nk := ax.1 k hlt
      clear hxc hyc hxa hya
      rcases Int.lt_trichotomy (key (Q k)) (key V) with hcmp | hcmp | hcmp
      · have o1 := order_lt nk hV hcmp
        go_wp2
        go_roundg (n - (k + 1))
        case measure => omega
        case rel => exact ⟨rfl, k + 1, c, rfl, by omega, by go_num, rfl, by omega, cnt_miss1 hC.out (by omega)⟩
      · have o1 := order_eq nk hV hcmp
        have HC : Hid (key (Q k) = key V) := hcmp
        clear hcmp
        go_wp2
        go_roundg (n - (k + 1))
        case measure => omega
        case rel => exact ⟨rfl, k + 1, c + 1, rfl, by omega, by go_num, by go_num, by omega, cnt_hit1 hC.out HC.out⟩
      · have o1 := order_gt nk hV hcmp
        go_wp2
        go_roundg (n - (k + 1))
        case measure => omega
        case rel => exact ⟨rfl, k + 1, c, rfl, by omega, by go_num, rfl, by omega, cnt_miss1 hC.out (by omega)⟩
    · have hz : ¬ (k : Int) < n := by omega
      have hcx : Hid (c = cnt (fun i => key (Q i)) n (key V)) := by rw [show n = k by omega]; exact hC.out
      have hcn : c ≤ 4096 := by omega
      clear hC
      go_wp2
      go_loopg [9, 11] m (fun g cv iv wx => wx = wr ∧ ∃ k c' : Nat, g = m - k ∧ k ≤ m ∧ iv = .int .i64 k ∧ cv = .int .i64 c' ∧ c' ≤ c + k ∧ Hid (c' = c + cnt (fun i => key (Yb i)) k (key V)))
      case atStart => exact ⟨rfl, 0, c, rfl, Nat.zero_le _, rfl, rfl, Nat.le_refl _, rfl⟩
      case round =>
        obtain ⟨rfl, k, c', rfl, hk, rfl, rfl, hck', hC⟩ := hrel
        by_cases hlt : k < m
        · obtain rfl := hya (by omega)
          have hz : (k : Int) < m := by omega
          have ck := hyc k hlt
          have nk := ay.1 k hlt
          clear hxc hyc hxa hya
          rcases Int.lt_trichotomy (key (Yb k)) (key V) with hcmp | hcmp | hcmp
          · have o1 := order_lt nk hV hcmp
            go_wp2
            go_roundg (m - (k + 1))
            case measure => omega
            case rel => exact ⟨rfl, k + 1, c', rfl, by omega, by go_num, rfl, by omega, cnt_miss2 hC.out (by omega)⟩
          · have o1 := order_eq nk hV hcmp
            have HC : Hid (key (Yb k) = key V) := hcmp
            clear hcmp
            go_wp2
            go_roundg (m - (k + 1))
            case measure => omega
            case rel => exact ⟨rfl, k + 1, c' + 1, rfl, by omega, by go_num, by go_num, by omega, cnt_hit2 hC.out HC.out⟩
          · have o1 := order_gt nk hV hcmp
            go_wp2
            go_roundg (m - (k + 1))
            case measure => omega
            case rel => exact ⟨rfl, k + 1, c', rfl, by omega, by go_num, rfl, by omega, cnt_miss2 hC.out (by omega)⟩
        · have hz : ¬ (k : Int) < m := by omega
          have hfin : Hid (c' = eqs (fun i => key (Q i)) n (fun j => key (Yb j)) m (key V)) := by
            unfold eqs
            rw [← hcx.out, show m = k by omega]; exact hC.out
          clear hC hcx hxc hyc hxa hya
          go_wp2
          go_ret
          exact ⟨ret_int (by rw [← hfin.out]), rfl⟩
end Go.Proofs.Qxb6602837a
