/- gateB1Copy, gateB1ProductsAscending, gateB1EqualCount. -/
import Derived.Test.Qxb6602837aBase
import Derived.Test.Qxb6602837aCount
namespace Go.Proofs.Qxb6602837a
open Go.RowKit
attribute [local go_sem] run_store_float

theorem Try.info23 : (Try.prog.info? 23).map (fun i => (i.zero, i.size, i.bytes)) = some (some (.float .f64 0), 1, 8) := by kernel_rfl

/-- The copy under way: k doubles are copied. -/
def rowF (X : Nat → Nat) (k : Nat) : Nat → Value := fun i => if i < k then .float .f64 (X i) else .float .f64 0

structure ClF (w wr : World) (n k : Nat) (X : Nat → Nat) : Prop where
  below : Below w.heap.size w wr
  row : wr.rowIs w.heap.size 23 n (rowF X k)

theorem clf_start (w : World) (n : Nat) (X : Nat → Nat) : ClF w (w.alloc (.cells (madeCells #[.float .f64 0] n) 23)) n 0 X :=
  ⟨(Below.refl _ _).alloc (Nat.le_refl _) _, (World.rowIs_made w _ n 23).congr (fun j _ => by simp [rowF])⟩

theorem clf_step {w wr : World} {n k : Nat} {X : Nat → Nat} (h : ClF w wr n k X) : ClF w (wr.setCell ⟨w.heap.size, k, none⟩ (.float .f64 (X k))) n (k + 1) X :=
  ⟨h.below.setCell (Nat.le_refl _) _, (h.row.set k _).congr (fun j _ => by
    simp only [rowF]
    by_cases e : j = k
    · subst e; simp
    · rw [if_neg e]
      by_cases hlt : j < k
      · rw [if_pos hlt, if_pos (by omega)]
      · rw [if_neg hlt, if_neg (by omega)])⟩

/-- What the copy leaves: the same doubles, in new memory. -/
def CpPost (n : Nat) (X : Nat → Nat) (w : World) (e : Ending) (w' : World) : Prop :=
  ∃ (a' : Option Addr) (c' : Nat), e = .returned (.slice a' n c') ∧ FAt w' a' n X ∧ Below w.heap.size w w'

set_option maxHeartbeats 400000 in
theorem copy_any (a : Option Addr) (n c : Nat) (X : Nat → Nat) (w : World) (hn : n ≤ 4096) (h : FAt w a n X) :
    Calls Try.prog 11 #[.slice a n c] w fun e w' => CpPost n X w e w' := by
  obtain ⟨b, o, ha, hc⟩ := h
  have heq := fun w => Lib.run_eql_slice_nil (P := Try.prog) w 22 23 a n c 0 0 Try.underlying22
  have hmk := run_make_row' (P := Try.prog) 22 23 (.float .f64 0) 8 Try.underlying22 Try.info23 rfl .i64 .i64 n (by omega) (by omega)
  cases a with
  | none =>
    have hn0 : n = 0 := by
      by_cases h0 : 0 < n
      · have := ha h0; cases this
      · omega
    subst hn0
    go_enter Try.func11, Try.ntmps11
    go_wp2
    go_ret
    exact ⟨_, _, rfl, ⟨0, 0, fun h => absurd h (Nat.lt_irrefl _), fun i h => absurd h (Nat.not_lt_zero _)⟩, Below.refl _ _⟩
  | some x =>
    go_enter Try.func11, Try.ntmps11
    go_wp2
    clear hmk heq
    go_loopg [4] n (fun g i wr => ∃ k : Nat, g = n - k ∧ k ≤ n ∧ i = .int .i64 k ∧ ClF w wr n k X)
    case atStart => exact ⟨0, rfl, Nat.zero_le _, rfl, clf_start w n X⟩
    case round =>
      obtain ⟨k, rfl, hk, rfl, hC⟩ := hrel
      by_cases hlt : k < n
      · have hx := Option.some.inj (ha (by omega))
        subst hx
        have hz : (k : Int) < n := by omega
        have hck : wr.cell? ⟨b, o + k, none⟩ = some (.float .f64 (X k)) := by
          rw [hC.below.cell (p := ⟨b, o + k, none⟩) (World.block_lt_of_cell? _ _ (hc k hlt))]; exact hc k hlt
        have hst := hC.row.cell hlt
        have hfr := hC.row.frozen k
        have hC' := clf_step hC
        clear hc ha hC
        go_wp2
        go_roundg (n - (k + 1))
        case measure => omega
        case rel => exact ⟨k + 1, rfl, by omega, by go_num, hC'⟩
      · have hz : ¬ (k : Int) < n := by omega
        have hkn : k = n := by omega
        have hrow : FAt wr (some ⟨w.heap.size, 0, none⟩) n X := ⟨w.heap.size, 0, fun _ => rfl, fun i hi => by rw [Nat.zero_add, hC.row.cell hi]; simp [rowF]; omega⟩
        have hbel := hC.below
        clear hc ha hC hkn
        go_wp2
        go_ret
        exact ⟨_, _, rfl, hrow, hbel⟩

/-! ### The products -/

/-- Each product of s with one of the first n is a number: Q i. -/
def Prods (n s : Nat) (X Q : Nat → Nat) : Prop := ∀ i, i < n → Ieee.double.mul s (X i) = some (Q i)

def PAsc (n s : Nat) (X : Nat → Nat) : Prop := ∃ Q, Prods n s X Q ∧ Asc n Q

set_option maxHeartbeats 400000 in
theorem products_asc (a : Option Addr) (n c s : Nat) (X : Nat → Nat) (w : World) (hn : n ≤ maxLen) (h : FAt w a n X) :
    Calls Try.prog 9 #[.slice a n c, .float .f64 s] w fun e w' => APost (PAsc n s X) w e w' := by
  unfold maxLen at hn
  obtain ⟨b, o, ha, hc⟩ := h
  obtain ⟨Q, hQ⟩ : ∃ Q : Nat → Nat, Q = fun i => (Ieee.double.mul s (X i)).getD 0 := ⟨_, rfl⟩
  have hsome : ∀ i, Ieee.double.mul s (X i) ≠ none → Ieee.double.mul s (X i) = some (Q i) := fun i hi => by
    rw [hQ]
    cases hm : Ieee.double.mul s (X i) with
    | none => exact absurd hm hi
    | some p => simp [hm]
  clear hQ
  go_enter Try.func9, Try.ntmps9
  go_wp2
  go_loopg [5] n (fun g i wx => wx = w ∧ ∃ k : Nat, g = n - k ∧ k ≤ n ∧ i = .int .i64 k ∧ Hid (Prods k s X Q ∧ Asc k Q))
  case atStart => exact ⟨rfl, 0, rfl, Nat.zero_le _, rfl, fun i hi => absurd hi (Nat.not_lt_zero _), fun i hi => absurd hi (Nat.not_lt_zero _), fun i hi => absurd hi (Nat.not_lt_zero _)⟩
  case round =>
    obtain ⟨rfl, k, rfl, hk, rfl, hH⟩ := hrel
    by_cases hlt : k < n
    · obtain rfl := ha (by omega)
      have hz : (k : Int) < n := by omega
      have ck := hc k hlt
      by_cases hm : Ieee.double.mul s (X k) = none
      · obtain ⟨bad, hbad, hrun⟩ := run_mul_none (P := Try.prog) hm wr
        have o1 := order_nan hbad bad
        have hrun' := hrun 23
        clear hc ha hm hrun hsome hbad
        go_wp2
        go_ret
        exact ano 1 rfl rfl
      · have hp := hsome k hm
        have hnum := mul_num hp
        have hrun := run_mul_some (P := Try.prog) hp 23
        have o1 := order_eq hnum hnum rfl
        have HP : Hid (Ieee.double.mul s (X k) = some (Q k)) := hp
        clear hm hp hsome
        by_cases hk0 : k = 0
        · have hpos : ¬ (0 : Int) < (k : Int) := by omega
          have HK : Hid (k = 0) := hk0
          clear hc ha hk0
          go_wp2
          go_roundg (n - (k + 1))
          case measure => omega
          case rel => exact ⟨rfl, k + 1, rfl, by omega, by go_num, fun i hi => by obtain rfl : i = k := by have := HK.out; omega
                                                                                  exact HP.out, asc_one hnum HK.out⟩
        · obtain ⟨k, rfl⟩ : ∃ k', k = k' + 1 := ⟨k - 1, by omega⟩
          have ck1 := hc k (by omega)
          have num1 := hH.out.2.1 k (by omega)
          have hrun1 := run_mul_some (P := Try.prog) (hH.out.1 k (by omega)) 23
          have hpos : (0 : Int) < (k : Int) + 1 := by omega
          have hprods : Hid (Prods (k + 1 + 1) s X Q) := fun i hi => by
            by_cases e : i = k + 1
            · subst e; exact HP.out
            · exact hH.out.1 i (by omega)
          clear hk0 hc ha
          rcases Int.lt_trichotomy (key (Q k)) (key (Q (k + 1))) with hcmp | hcmp | hcmp
          · have o2 := order_lt num1 hnum hcmp
            have hle : key (Q k) ≤ key (Q (k + 1)) := by omega
            go_wp2
            go_roundg (n - (k + 1 + 1))
            case measure => omega
            case rel => exact ⟨rfl, k + 1 + 1, rfl, by omega, by go_num, hprods.out, asc_step hH.out.2 hnum hle⟩
          · have o2 := order_eq num1 hnum hcmp
            have hle : key (Q k) ≤ key (Q (k + 1)) := by omega
            clear hcmp
            go_wp2
            go_roundg (n - (k + 1 + 1))
            case measure => omega
            case rel => exact ⟨rfl, k + 1 + 1, rfl, by omega, by go_num, hprods.out, asc_step hH.out.2 hnum hle⟩
          · have o2 := order_gt num1 hnum hcmp
            go_wp2
            go_ret
            exact ano 0 rfl rfl
    · have hz : ¬ (k : Int) < n := by omega
      clear hc ha hsome
      go_wp2
      go_ret
      exact ⟨true, 0, rfl, fun _ => by rw [show n = k by omega]; exact ⟨Q, hH.out⟩, rfl⟩
end Go.Proofs.Qxb6602837a
