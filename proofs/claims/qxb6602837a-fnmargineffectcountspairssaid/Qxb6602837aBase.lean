/- What the walks are told of a slice of doubles; the small functions: sizes, ascending, copy. -/
import Derived.Test.Qxb6602837aRows
import Derived.Test.Qxb6602837aFloat
import Derived.WalkKit
import Derived.WalkSpells
import Derived.WalkLawsBesides
import Derived.Deep.LoopGhost
import Derived.Deep.OwnRows
import Derived.Deep.QuietTactic
import Derived.BigQuiet
namespace Go.Proofs.Qxb6602837a
open Go.RowKit

/-- The slice value with address a and n elements holds the doubles X 0 .. X (n-1). -/
def FAt (w : World) (a : Option Addr) (n : Nat) (X : Nat → Nat) : Prop :=
  ∃ b o, (0 < n → a = some ⟨b, o, none⟩) ∧ ∀ j, j < n → w.cell? ⟨b, o + j, none⟩ = some (.float .f64 (X j))

theorem fat_below {w w' : World} {a : Option Addr} {n : Nat} {X : Nat → Nat} (h : FAt w a n X) (hb : Below w.heap.size w w') : FAt w' a n X := by
  obtain ⟨b, o, ha, hc⟩ := h
  exact ⟨b, o, ha, fun j hj => by rw [hb.cell (p := ⟨b, o + j, none⟩) (World.block_lt_of_cell? _ _ (hc j hj))]; exact hc j hj⟩

theorem fl_W (n : Nat) : floatOfInt .f64 (n : Int) = W n := by
  have h : decide ((n : Int) < 0) = false := decide_eq_false (by omega)
  simp only [floatOfInt, FloatKind.nearest, FloatKind.encode, Ieee.Format.write, h, Int.natAbs_natCast]
  rfl

/-! ### The operations' runs -/

theorem run_mul_some {P : Program} {s x p : Nat} (h : Ieee.double.mul s x = some p) (t : TypeId) (w : World) : (binOp .mul t (.float .f64 s) (.float .f64 x)).run P w = .ok (.float .f64 p) w :=
  run_float_arith w .mul t .f64 s x p h

theorem nan_word (t : Nat) : ¬ num ((t % 2) * 2 ^ 63 + 0x7ff0000000000000 + 1 + (t / 2) % (2 ^ 52 - 1)) := by
  have hq : (t / 2) % (2 ^ 52 - 1) < 2 ^ 52 - 1 := Nat.mod_lt _ (by decide)
  generalize (t / 2) % (2 ^ 52 - 1) = q at hq
  have hw : (t % 2) * 2 ^ 63 + 0x7ff0000000000000 + 1 + q = Ieee.double.word (t % 2 == 1) (2047 * 2 ^ 52 + 1 + q) := by
    unfold Ieee.Format.word
    rw [signEq]
    rcases Nat.mod_two_eq_zero_or_one t with h | h <;> rw [h]
    · simp only [show ((0 : Nat) == 1) = false from rfl, Bool.false_eq_true, if_false]
    · simp only [show ((1 : Nat) == 1) = true from rfl, if_true]; omega
  rw [hw]
  unfold num
  rw [read_word _ _ (by omega), if_neg (by omega), if_neg (by omega), if_neg (by omega)]
  simp [Ieee.Datum.isNaN]

theorem run_mul_none {P : Program} {s x : Nat} (h : Ieee.double.mul s x = none) (w : World) : ∃ b, ¬ num b ∧ ∀ t, (binOp .mul t (.float .f64 s) (.float .f64 x)).run P w = .ok (.float .f64 b) w.drew := by
  refine ⟨_, nan_word (w.tape w.drawn (.nanBits .f64 s x)), fun t => ?_⟩
  have h' : FloatKind.f64.format.mul s x = none := h
  simp [binOp, Op.floatArith, h', Question.forced, Question.cut]

/-- A double stored (the kit has this law for integers, bools, strings ..). -/
theorem run_store_float {P : Program} (w : World) (a : Addr) (m : Mode) (k : FloatKind) (x : Nat) : (store a (.float k x) m).run P w = stored P w a (.float k x) m := run_store P w a _ m rfl

/-! ### The sizes -/

def BPost (w : World) (e : Ending) (w' : World) : Prop := ∃ β : Bool, e = .returned (.bool β) ∧ w' = w

set_option maxHeartbeats 400000 in
theorem zz_swap (a : Option Addr) (n c : Nat) (a2 : Option Addr) (n2 c2 : Nat) (w : World) (hn : n ≤ maxLen) (hn2 : n2 ≤ maxLen) :
    Calls Try.prog 14 #[.slice a n c, .slice a2 n2 c2] w fun e w' => BPost w e w' := by
  unfold maxLen at hn hn2
  go_enter Try.func14, Try.ntmps14
  go_wp2
  all_goals
    go_ret
    exact ⟨_, rfl, rfl⟩

set_option maxHeartbeats 400000 in
theorem zz_counts (a : Option Addr) (n c : Nat) (s : Nat) (a2 : Option Addr) (n2 c2 : Nat) (w : World) (hn : n ≤ maxLen) (hn2 : n2 ≤ maxLen) :
    Calls Try.prog 8 #[.slice a n c, .float .f64 s, .slice a2 n2 c2] w fun e w' => BPost w e w' := by
  unfold maxLen at hn hn2
  go_enter Try.func8, Try.ntmps8
  go_wp2
  all_goals
    go_ret
    exact ⟨_, rfl, rfl⟩

/-! ### Ascending -/

def Asc (n : Nat) (X : Nat → Nat) : Prop := (∀ i, i < n → num (X i)) ∧ ∀ i, i + 1 < n → key (X i) ≤ key (X (i + 1))

def APost (p : Prop) (w : World) (e : Ending) (w' : World) : Prop := ∃ (β : Bool) (q : Nat), e = .returned (.bool β) ∧ (β = true → p) ∧ w' = w.drewN q

theorem ano {p : Prop} {w : World} {e : Ending} {w' : World} (q : Nat) (he : e = .returned (.bool false)) (hw : w' = w.drewN q) : APost p w e w' := ⟨false, q, he, by simp, hw⟩

theorem asc_one {k : Nat} {X : Nat → Nat} (hnum : num (X k)) (h0 : k = 0) : Asc (k + 1) X :=
  ⟨fun i hi => by obtain rfl : i = k := by omega
                  exact hnum, fun i hi => by omega⟩

theorem asc_step {k : Nat} {X : Nat → Nat} (h : Asc (k + 1) X) (hnum : num (X (k + 1))) (hle : key (X k) ≤ key (X (k + 1))) : Asc (k + 1 + 1) X :=
  ⟨fun i hi => by
    by_cases e : i = k + 1
    · subst e; exact hnum
    · exact h.1 i (by omega), fun i hi => by
    by_cases e : i = k
    · subst e; exact hle
    · exact h.2 i (by omega)⟩

set_option maxHeartbeats 400000 in
theorem ascending (a : Option Addr) (n c : Nat) (X : Nat → Nat) (w : World) (hn : n ≤ maxLen) (h : FAt w a n X) :
    Calls Try.prog 10 #[.slice a n c] w fun e w' => APost (Asc n X) w e w' := by
  unfold maxLen at hn
  obtain ⟨b, o, ha, hc⟩ := h
  go_enter Try.func10, Try.ntmps10
  go_wp2
  go_loopg [3] n (fun g i wx => ∃ k q : Nat, wx = w.drewN q ∧ g = n - k ∧ k ≤ n ∧ i = .int .i64 k ∧ Hid (Asc k X))
  case atStart => exact ⟨0, 0, rfl, rfl, Nat.zero_le _, rfl, fun i hi => absurd hi (Nat.not_lt_zero _), fun i hi => absurd hi (Nat.not_lt_zero _)⟩
  case round =>
    obtain ⟨k, q, rfl, rfl, hk, rfl, hH⟩ := hrel
    by_cases hlt : k < n
    · obtain rfl := ha (by omega)
      have hz : (k : Int) < n := by omega
      have ck := hc k hlt
      by_cases hnum : num (X k)
      · have o1 := order_eq hnum hnum rfl
        by_cases hk0 : k = 0
        · have hpos : decide (0 < k) = false := by simp; omega
          have HK : Hid (k = 0) := hk0
          clear hc ha hk0
          go_wp2_with fail
          go_quiet (fail)
          go_wp2_with fail
          go_quiet (fail)
          go_wp2
          go_roundg (n - (k + 1))
          case measure => omega
          case rel => exact ⟨k + 1, _, rfl, rfl, by omega, by go_num, asc_one hnum HK.out⟩
        · obtain ⟨k, rfl⟩ : ∃ k', k = k' + 1 := ⟨k - 1, by omega⟩
          have ck1 := hc k (by omega)
          have num1 := hH.out.1 k (by omega)
          have hpos : decide ((0 : Int) < (k : Int) + 1) = true := by simp
          clear hk0
          rcases Int.lt_trichotomy (key (X k)) (key (X (k + 1))) with hcmp | hcmp | hcmp
          · have o2 := order_lt num1 hnum hcmp
            have hle : key (X k) ≤ key (X (k + 1)) := by omega
            clear hc ha
            go_wp2_with fail
            go_quiet (fail)
            go_wp2_with fail
            go_quiet (fail)
            go_wp2
            go_roundg (n - (k + 1 + 1))
            case measure => omega
            case rel => exact ⟨k + 1 + 1, _, rfl, rfl, by omega, by go_num, asc_step hH.out hnum hle⟩
          · have o2 := order_eq num1 hnum hcmp
            have hle : key (X k) ≤ key (X (k + 1)) := by omega
            clear hcmp
            clear hc ha
            go_wp2_with fail
            go_quiet (fail)
            go_wp2_with fail
            go_quiet (fail)
            go_wp2
            go_roundg (n - (k + 1 + 1))
            case measure => omega
            case rel => exact ⟨k + 1 + 1, _, rfl, rfl, by omega, by go_num, asc_step hH.out hnum hle⟩
          · have o2 := order_gt num1 hnum hcmp
            clear hc ha
            go_wp2_with fail
            go_quiet (fail)
            go_wp2_with fail
            go_quiet (fail)
            go_wp2
            go_ret
            exact ano _ rfl (Eq.trans (World.drewN_drewN ..) (World.drewN_drewN ..))
      · have o1 := order_nan hnum (X k)
        clear hc ha
        go_wp2_with fail
        go_quiet (fail)
        go_wp2
        go_ret
        exact ano _ rfl (World.drewN_drewN ..)
    · have hz : ¬ (k : Int) < n := by omega
      clear hc ha
      go_wp2
      go_ret
      exact ⟨true, _, rfl, fun _ => by rw [show n = k by omega]; exact hH.out, rfl⟩
end Go.Proofs.Qxb6602837a
