/- The small functions: sizes, countTrue, givenRank, givenHas, isSubsequence. -/
import Derived.Test.Qxb6602856aNames
namespace Go.Proofs.Qxb6602856a
open Go.RowKit

theorem str_ne {a b : ByteArray} (h : ¬ a = b) : (a.toList == b.toList) = false := by
  rw [beq_eq_false_iff_ne]
  intro e
  rw [ByteArray.toList_eq, ByteArray.toList_eq] at e
  apply h
  cases a; cases b
  simp only [ByteArray.mk.injEq]
  exact Array.toList_inj.1 e

theorem str_eq {a b : ByteArray} (h : a = b) : (a.toList == b.toList) = true := by rw [h]; simp

def BPost (w : World) (e : Ending) (w' : World) : Prop := ∃ β : Bool, e = .returned (.bool β) ∧ w' = w

set_option maxHeartbeats 400000 in
theorem zz_exact (f0 : Bool) (s1 s2 : ByteArray) (f3 f4 f5 : Bool) (w : World) (h1 : s1.size ≤ maxLen) (h2 : s2.size ≤ maxLen) :
    Calls Try.prog 10 #[.bool f0, .string s1, .string s2, .bool f3, .bool f4, .bool f5] w fun e w' => BPost w e w' := by
  unfold maxLen at h1 h2
  go_enter Try.func10, Try.ntmps10
  go_wp2
  all_goals
    go_ret
    exact ⟨_, rfl, rfl⟩

/-- How many are true. -/
def tally (a b c d : Bool) : Nat := a.toNat + b.toNat + c.toNat + d.toNat

set_option maxHeartbeats 400000 in
theorem count_true (a b c d : Bool) (w : World) : Calls Try.prog 13 #[.bool a, .bool b, .bool c, .bool d] w fun e w' => e = .returned (.int .i64 (tally a b c d)) ∧ w' = w := by
  cases a <;> cases b <;> cases c <;> cases d
  all_goals
    go_enter Try.func13, Try.ntmps13
    go_wp2
    go_ret
    exact ⟨rfl, rfl⟩
/-- The four names. -/
def nm : Nat → ByteArray
  | 0 => ⟨#[102, 105, 101, 108, 100, 82, 101, 102]⟩
  | 1 => ⟨#[114, 101, 115, 111, 117, 114, 99, 101, 70, 105, 101, 108, 100, 82, 101, 102]⟩
  | 2 => ⟨#[99, 111, 110, 102, 105, 103, 77, 97, 112, 75, 101, 121, 82, 101, 102]⟩
  | _ => ⟨#[115, 101, 99, 114, 101, 116, 75, 101, 121, 82, 101, 102]⟩

set_option maxHeartbeats 400000 in
theorem rank_any (i : Nat) (hi : i < 4) (w : World) : Calls Try.prog 14 #[.string (nm i)] w fun e w' => e = .returned (.int .i64 i) ∧ w' = w := by
  rcases (show i = 0 ∨ i = 1 ∨ i = 2 ∨ i = 3 by omega) with rfl | rfl | rfl | rfl
  all_goals
    unfold nm
    go_enter Try.func14, Try.ntmps14
    go_wp2
    go_ret
    exact ⟨rfl, rfl⟩

def HasPost (t : ByteArray) (l : List ByteArray) (w : World) (e : Ending) (w' : World) : Prop := ∃ β : Bool, e = .returned (.bool β) ∧ (β = true ↔ t ∈ l) ∧ w' = w

theorem has_yes {t : ByteArray} {l : List ByteArray} {w : World} {e : Ending} {w' : World} (he : e = .returned (.bool true)) (h : t ∈ l) (hw : w' = w) : HasPost t l w e w' := ⟨true, he, by simp [h], hw⟩
theorem has_no {t : ByteArray} {l : List ByteArray} {w : World} {e : Ending} {w' : World} (he : e = .returned (.bool false)) (h : ¬ t ∈ l) (hw : w' = w) : HasPost t l w e w' := ⟨false, he, by simp [h], hw⟩

set_option maxHeartbeats 400000 in
theorem has_any (a : Option Addr) (l : List ByteArray) (c : Nat) (t : ByteArray) (w : World) (hl : l.length ≤ 4) (h : LAt w a l) :
    Calls Try.prog 15 #[.slice a l.length c, .string t] w fun e w' => HasPost t l w e w' := by
  obtain ⟨_, hc⟩ := h
  go_enter Try.func15, Try.ntmps15
  go_wp2
  go_loopg [5] l.length (fun g iv wx => wx = w ∧ ∃ i : Nat, g = l.length - i ∧ i ≤ l.length ∧ iv = .int .i64 i ∧ Hid (∀ j (h : j < l.length), j < i → l[j] ≠ t))
  case atStart => exact ⟨rfl, 0, rfl, Nat.zero_le _, rfl, fun j _ h => absurd h (Nat.not_lt_zero _)⟩
  case round =>
    obtain ⟨rfl, i, rfl, hi, rfl, hH⟩ := hrel
    by_cases hlt : i < l.length
    · have hz : (i : Int) < l.length := by omega
      obtain ⟨g, rfl, ci⟩ := hc i hlt
      clear hc
      by_cases t3 : l[i] = t
      · have t3b := str_eq t3
        have T3 : Hid (t ∈ l) := by rw [← t3]; exact List.getElem_mem hlt
        clear t3
        go_wp2
        go_ret
        exact has_yes rfl T3.out rfl
      · have t3b := str_ne t3
        have T3 : Hid (¬ l[i] = t) := t3
        clear t3
        go_wp2
        go_roundg (l.length - (i + 1))
        case measure => omega
        case rel => exact ⟨rfl, i + 1, rfl, by omega, by go_num, fun j hj hji => by
          by_cases e : j = i
          · subst e; exact T3.out
          · exact hH j hj (by omega)⟩
    · have hz : ¬ (i : Int) < l.length := by omega
      have hno : Hid (¬ t ∈ l) := fun hm => by
        obtain ⟨j, hj, e⟩ := List.getElem_of_mem hm
        exact hH j hj (by omega) e
      clear hc hH
      go_wp2
      go_ret
      exact has_no rfl hno.out rfl

/-! ### A subsequence, greedily -/

def step (s : List ByteArray) (j : Nat) (x : ByteArray) : Nat := if s[j]? = some x then j + 1 else j
/-- How much of s is met in l, from the left. -/
def gr (s l : List ByteArray) : Nat := l.foldl (step s) 0

theorem gr_succ (s l : List ByteArray) (i : Nat) (h : i < l.length) : gr s (l.take (i + 1)) = step s (gr s (l.take i)) l[i] := by
  unfold gr
  rw [List.take_succ_eq_append_getElem h, List.foldl_append]; rfl

theorem gr_le (s l : List ByteArray) (i : Nat) : gr s (l.take i) ≤ s.length := by
  unfold gr
  have : ∀ (xs : List ByteArray) (j : Nat), j ≤ s.length → xs.foldl (step s) j ≤ s.length := by
    intro xs
    induction xs with
    | nil => intro j h; exact h
    | cons x xs ih =>
      intro j h
      refine ih _ ?_
      unfold step
      split
      · rename_i e
        have := (List.getElem?_eq_some_iff.1 e).1
        omega
      · exact h
  exact this _ 0 (Nat.zero_le _)

theorem gr_hit {s l : List ByteArray} {i j : Nat} (h : i < l.length) (hj : j < s.length) (hg : gr s (l.take i) = j) (e : s[j] = l[i]) : gr s (l.take (i + 1)) = j + 1 := by
  rw [gr_succ s l i h, hg]; unfold step; rw [List.getElem?_eq_getElem hj, e, if_pos rfl]
theorem gr_miss {s l : List ByteArray} {i j : Nat} (h : i < l.length) (hj : j < s.length) (hg : gr s (l.take i) = j) (e : ¬ s[j] = l[i]) : gr s (l.take (i + 1)) = j := by
  rw [gr_succ s l i h, hg]; unfold step; rw [List.getElem?_eq_getElem hj, if_neg (by simpa using e)]
theorem gr_full {s l : List ByteArray} {i j : Nat} (h : i < l.length) (hj : ¬ j < s.length) (hg : gr s (l.take i) = j) : gr s (l.take (i + 1)) = j := by
  rw [gr_succ s l i h, hg]; unfold step; rw [List.getElem?_eq_none (by omega)]; simp

def SubPost (s l : List ByteArray) (w : World) (e : Ending) (w' : World) : Prop := ∃ (β : Bool) (q : Nat), e = .returned (.bool β) ∧ (gr s l = s.length → β = true) ∧ w' = w.drewN q

set_option maxHeartbeats 1000000 in
theorem sub_any (a : Option Addr) (s : List ByteArray) (c : Nat) (a2 : Option Addr) (l : List ByteArray) (c2 : Nat) (w : World) (hs : s.length ≤ 4) (hl : l.length ≤ 4) (h : LAt w a s) (h2 : LAt w a2 l) :
    Calls Try.prog 16 #[.slice a s.length c, .slice a2 l.length c2] w fun e w' => SubPost s l w e w' := by
  obtain ⟨_, hc⟩ := h
  obtain ⟨_, hc2⟩ := h2
  go_enter Try.func16, Try.ntmps16
  go_wp2
  go_loopg [5, 6] l.length (fun g jv iv wx => ∃ i j q : Nat, wx = w.drewN q ∧ g = l.length - i ∧ i ≤ l.length ∧ iv = .int .i64 i ∧ jv = .int .i64 j ∧ j ≤ s.length ∧ Hid (gr s (l.take i) = j))
  case atStart => exact ⟨0, 0, 0, rfl, rfl, Nat.zero_le _, rfl, rfl, Nat.zero_le _, rfl⟩
  case round =>
    obtain ⟨i, j, q, rfl, rfl, hi, rfl, rfl, hj, hG⟩ := hrel
    by_cases hlt : i < l.length
    · have hz : (i : Int) < l.length := by omega
      obtain ⟨g, rfl, ci⟩ := hc2 i hlt
      clear hc2
      by_cases hjs : j < s.length
      · obtain ⟨g2, rfl, cj⟩ := hc j hjs
        have d1 : decide ((j : Int) < (s.length : Int)) = true := by simpa using hjs
        have hjz : (j : Int) < s.length := by omega
        clear hc
        by_cases t3 : s[j] = l[i]
        · have t3b := str_eq t3
          have hG' : Hid (gr s (l.take (i + 1)) = j + 1) := gr_hit hlt hjs hG.out t3
          clear t3 hG
          go_wp2_with fail
          go_quiet (fail)
          go_wp2
          go_roundg (l.length - (i + 1))
          case measure => omega
          case rel => exact ⟨i + 1, j + 1, _, rfl, rfl, by omega, by go_num, by go_num, by omega, hG'.out⟩
        · have t3b := str_ne t3
          have hG' : Hid (gr s (l.take (i + 1)) = j) := gr_miss hlt hjs hG.out t3
          clear t3 hG
          go_wp2_with fail
          go_quiet (fail)
          go_wp2
          go_roundg (l.length - (i + 1))
          case measure => omega
          case rel => exact ⟨i + 1, j, _, rfl, rfl, by omega, by go_num, rfl, by omega, hG'.out⟩
      · have d1 : decide ((j : Int) < (s.length : Int)) = false := by simpa using hjs
        have hG' : Hid (gr s (l.take (i + 1)) = j) := gr_full hlt hjs hG.out
        clear hc hG
        go_wp2_with fail
        go_quiet (fail)
        go_wp2
        go_roundg (l.length - (i + 1))
        case measure => omega
        case rel => exact ⟨i + 1, j, _, rfl, rfl, by omega, by go_num, rfl, by omega, hG'.out⟩
    · have hz : ¬ (i : Int) < l.length := by omega
      have hfin : Hid (gr s l = j) := by
        have := hG.out
        rw [List.take_of_length_le (by omega)] at this
        exact this
      clear hc hc2 hG
      go_wp2
      go_ret
      exact ⟨_, q, rfl, fun e => by rw [← hfin.out, e]; simp, rfl⟩
end Go.Proofs.Qxb6602856a
