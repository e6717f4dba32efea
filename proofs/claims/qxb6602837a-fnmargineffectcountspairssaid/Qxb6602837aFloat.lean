/- Doubles: whole numbers below 2 to the 53 are exact; the order is that of integers; one times x is x. Nothing of the program here. -/
import Derived.Laws.FloatArith
namespace Go.Proofs.Qxb6602837a
open Ieee

theorem log2_shift {m : Nat} (hm : m ≠ 0) (k : Nat) : (m * 2 ^ k).log2 = m.log2 + k := by
  have h2 : 0 < 2 ^ k := Nat.two_pow_pos _
  have hne : m * 2 ^ k ≠ 0 := by
    have := Nat.mul_pos (Nat.pos_of_ne_zero hm) h2
    omega
  rw [Nat.log2_eq_iff hne]
  have a := Nat.log2_self_le hm
  have b := (Nat.log2_lt (k := m.log2 + 1) hm).1 (Nat.lt_succ_self _)
  constructor
  · rw [Nat.pow_add]; exact Nat.mul_le_mul_right _ a
  · rw [show m.log2 + k + 1 = (m.log2 + 1) + k by omega, Nat.pow_add]; exact Nat.mul_lt_mul_of_pos_right b h2

/-- Nothing is lost where there is nothing to lose. -/
theorem cut_exact (neg : Bool) (m k : Nat) : Toward.even.cut neg (m * 2 ^ k) k = m := by
  by_cases hm : m = 0
  · subst hm
    simp [Toward.cut]
  · unfold Toward.cut
    rw [log2_shift hm, show min k (m.log2 + k + 2) = k by omega]
    have hp : 0 < 2 ^ k := Nat.two_pow_pos _
    simp only [Nat.one_shiftLeft, Nat.mul_div_cancel _ hp, Nat.mul_mod_left]
    have h1 : decide (2 ^ k < 2 * 0) = false := by simp
    have h2 : (2 ^ k == 2 * 0) = false := by simp
    rw [h1, h2]
    simp

theorem least : double.leastPlace = -1074 := by decide
theorem binadeEq : double.binade = 2 ^ 52 := by decide
theorem infEq : double.infRung = 2047 * 2 ^ 52 := by decide
theorem signEq : double.signWeight = 2 ^ 63 := by decide
theorem fracEq : double.fractionBits = 52 := rfl

/-- The nearest word of a number that fits hangs on its value alone. -/
theorem nearest_repr (neg : Bool) (m k : Nat) (i : Int) (hm : m ≠ 0) (h1 : m < 2 ^ 53) (h2 : -1074 ≤ i) :
    double.nearest neg (m * 2 ^ k) (i - k) =
      double.word neg (min ((max (i + m.log2 - 52) (-1074) + 1074).toNat * 2 ^ 52 + m * 2 ^ (i - max (i + m.log2 - 52) (-1074)).toNat) (2047 * 2 ^ 52)) := by
  have hl : m.log2 < 53 := (Nat.log2_lt hm).2 h1
  have hne : m * 2 ^ k ≠ 0 := by
    have := Nat.mul_pos (Nat.pos_of_ne_zero hm) (Nat.two_pow_pos k)
    omega
  unfold Format.nearest
  rw [if_neg hne]
  simp only [log2_shift hm, least, binadeEq, infEq, fracEq]
  rw [show (i - (k : Int) + ((m.log2 + k : Nat) : Int) - ((52 : Nat) : Int)) = i + m.log2 - 52 by omega]
  generalize hL : max (i + (m.log2 : Int) - 52) (-1074) = L
  have hLi : L ≤ i := by omega
  rw [show L - -1074 = L + 1074 by omega]
  have hk : Toward.even.cut neg ((m * 2 ^ k) <<< (i - (k : Int) - L).toNat) (L - (i - (k : Int))).toNat = m * 2 ^ (i - L).toNat := by
    rw [Nat.shiftLeft_eq]
    by_cases hp : L ≤ i - k
    · have e0 : (L - (i - (k : Int))).toNat = 0 := by omega
      rw [e0]
      have := cut_exact neg (m * 2 ^ k * 2 ^ (i - (k : Int) - L).toNat) 0
      rw [Nat.pow_zero, Nat.mul_one] at this
      rw [this, Nat.mul_assoc, ← Nat.pow_add]
      congr 2
      omega
    · have e0 : (i - (k : Int) - L).toNat = 0 := by omega
      rw [e0, Nat.pow_zero, Nat.mul_one]
      have e1 : k = (i - L).toNat + (L - (i - (k : Int))).toNat := by omega
      have := cut_exact neg (m * 2 ^ (i - L).toNat) (L - (i - (k : Int))).toNat
      rw [Nat.mul_assoc, ← Nat.pow_add, ← e1] at this
      exact this
  rw [hk]

theorem nearest_zero (neg : Bool) (i : Int) : double.nearest neg 0 i = double.word neg 0 := by simp [Format.nearest]

/-- A whole number, however it is spread over the digits. -/
theorem near_int (n k : Nat) (hn : n < 2 ^ 53) : double.nearest false (n * 2 ^ k) (-(k : Int)) = double.nearest false n 0 := by
  by_cases h0 : n = 0
  · subst h0; rw [Nat.zero_mul, nearest_zero, nearest_zero]
  · have a := nearest_repr false n k 0 h0 hn (by omega)
    have b := nearest_repr false n 0 0 h0 hn (by omega)
    rw [Nat.pow_zero, Nat.mul_one] at b
    rw [show (0 : Int) - (k : Int) = -(k : Int) by omega] at a
    rw [show (0 : Int) - ((0 : Nat) : Int) = 0 by omega] at b
    rw [a, b]

theorem read_word (neg : Bool) (r : Nat) (h : r < 2 ^ 63) : double.read (double.word neg r) =
    if r < 2 ^ 52 then .number neg r (-1074) else if r < 2047 * 2 ^ 52 then .number neg (2 ^ 52 + r % 2 ^ 52) (-1074 + (r / 2 ^ 52 - 1 : Nat))
    else if r = 2047 * 2 ^ 52 then .infinity neg else .nan neg (r - 2047 * 2 ^ 52) := by
  unfold Format.read
  simp only [signEq, binadeEq, infEq, least]
  have e1 : (double.word neg r / 2 ^ 63 % 2 == 1) = neg := by
    unfold Format.word
    rw [signEq]
    cases neg
    · simp only [Bool.false_eq_true, if_false]
      rw [Nat.div_eq_of_lt h]; rfl
    · simp only [if_true]
      rw [Nat.add_div_left _ (Nat.two_pow_pos _), Nat.div_eq_of_lt h]; rfl
  have e2 : double.word neg r % 2 ^ 63 = r := by
    unfold Format.word
    rw [signEq]
    cases neg
    · simp only [Bool.false_eq_true, if_false]
      exact Nat.mod_eq_of_lt h
    · simp only [if_true]
      rw [Nat.add_mod_left]
      exact Nat.mod_eq_of_lt h
  rw [e1, e2]

/-- The word of a whole number. -/
abbrev W (n : Nat) : Nat := double.nearest false n 0

theorem read_int (n : Nat) (hn : n < 2 ^ 53) : ∃ k : Nat, double.read (W n) = .number false (n * 2 ^ k) (-(k : Int)) := by
  by_cases h0 : n = 0
  · subst h0
    have aux : ∀ k : Nat, (k : Int) = 1074 → double.read (W 0) = .number false (0 * 2 ^ k) (-(k : Int)) := by
      intro k hk
      rw [W, nearest_zero, read_word _ _ (Nat.two_pow_pos _), if_pos (Nat.two_pow_pos _), Nat.zero_mul, hk]
    exact ⟨1074, aux 1074 rfl⟩
  · have hl : n.log2 < 53 := (Nat.log2_lt h0).2 hn
    have b := nearest_repr false n 0 0 h0 hn (by omega)
    rw [Nat.pow_zero, Nat.mul_one] at b
    rw [show (0 : Int) - ((0 : Nat) : Int) = 0 by omega] at b
    generalize hl' : n.log2 = l at *
    rw [show max ((0 : Int) + (l : Int) - 52) (-1074) = (l : Int) - 52 by omega] at b
    rw [show ((l : Int) - 52 + 1074).toNat = l + 1022 by omega, show ((0 : Int) - ((l : Int) - 52)).toNat = 52 - l by omega] at b
    have m1 : 2 ^ 52 ≤ n * 2 ^ (52 - l) := by
      have := Nat.log2_self_le h0
      rw [hl'] at this
      calc 2 ^ 52 = 2 ^ l * 2 ^ (52 - l) := by rw [← Nat.pow_add]; congr 1; omega
        _ ≤ n * 2 ^ (52 - l) := Nat.mul_le_mul_right _ this
    have m2 : n * 2 ^ (52 - l) < 2 ^ 53 := by
      have := (Nat.log2_lt (k := l + 1) h0).1 (by omega)
      calc n * 2 ^ (52 - l) < 2 ^ (l + 1) * 2 ^ (52 - l) := Nat.mul_lt_mul_of_pos_right this (Nat.two_pow_pos _)
        _ = 2 ^ 53 := by rw [← Nat.pow_add]; congr 1; omega
    refine ⟨52 - l, ?_⟩
    rw [W, b]
    generalize hM : n * 2 ^ (52 - l) = M at *
    have hmin : min ((l + 1022) * 2 ^ 52 + M) (2047 * 2 ^ 52) = (l + 1022) * 2 ^ 52 + M := by omega
    rw [hmin, read_word _ _ (by omega), if_neg (by omega), if_pos (by omega)]
    have q1 : ((l + 1022) * 2 ^ 52 + M) % 2 ^ 52 = M - 2 ^ 52 := by omega
    have q2 : ((l + 1022) * 2 ^ 52 + M) / 2 ^ 52 = l + 1023 := by omega
    rw [q1, q2, show 2 ^ 52 + (M - 2 ^ 52) = M by omega, show (-1074 : Int) + ((l + 1023 - 1 : Nat) : Int) = -((52 - l : Nat) : Int) by omega]

theorem signed_false (m up : Nat) : signed false m up = ((m * 2 ^ up : Nat) : Int) := by simp [signed, Nat.shiftLeft_eq]
theorem signed_true (m up : Nat) : signed true m up = -((m * 2 ^ up : Nat) : Int) := by simp [signed, Nat.shiftLeft_eq]

theorem spread (n k K : Nat) (h : k ≤ K) : n * 2 ^ k * 2 ^ (-(k : Int) - -(K : Int)).toNat = n * 2 ^ K := by
  rw [Nat.mul_assoc, ← Nat.pow_add]
  congr 2
  omega

theorem zero_or_pos (N : Nat) : (if ((N : Nat) : Int) = 0 then false else decide (((N : Nat) : Int) < 0)) = false := by
  split
  · rfl
  · exact decide_eq_false (by omega)

theorem add_W (a b : Nat) (h : a + b < 2 ^ 53) : double.add (W a) (W b) = some (W (a + b)) := by
  obtain ⟨k, hk⟩ := read_int a (by omega)
  obtain ⟨l, hl⟩ := read_int b (by omega)
  have hmin : min (-(k : Int)) (-(l : Int)) = -((max k l : Nat) : Int) := by omega
  simp only [Format.add, hk, hl, Datum.sum, hmin, signed_false, spread a k (max k l) (by omega), spread b l (max k l) (by omega), Option.map_some, Format.write, Bool.and_false]
  have e : ((a * 2 ^ max k l : Nat) : Int) + ((b * 2 ^ max k l : Nat) : Int) = (((a + b) * 2 ^ max k l : Nat) : Int) := by
    rw [← Int.natCast_add, Nat.add_mul]
  rw [e, Int.natAbs_natCast]
  rw [zero_or_pos, near_int _ _ h]

theorem sub_W (a b : Nat) (ha : a < 2 ^ 53) (h : b ≤ a) : double.sub (W a) (W b) = some (W (a - b)) := by
  obtain ⟨k, hk⟩ := read_int a (by omega)
  obtain ⟨l, hl⟩ := read_int b (by omega)
  have hmin : min (-(k : Int)) (-(l : Int)) = -((max k l : Nat) : Int) := by omega
  simp only [Format.sub, hk, hl, Datum.sum, Datum.opposite, Bool.not_false, hmin, signed_false, signed_true, spread a k (max k l) (by omega), spread b l (max k l) (by omega), Option.map_some, Format.write, Bool.false_and]
  have e : ((a * 2 ^ max k l : Nat) : Int) + -((b * 2 ^ max k l : Nat) : Int) = (((a - b) * 2 ^ max k l : Nat) : Int) := by
    have := Nat.mul_le_mul_right (2 ^ max k l) h
    rw [Nat.sub_mul, Int.ofNat_sub this]
    omega
  rw [e, Int.natAbs_natCast]
  rw [zero_or_pos, near_int _ _ (by omega)]

theorem mul_W (a b : Nat) (ha : a < 2 ^ 53) (hb : b < 2 ^ 53) (h : a * b < 2 ^ 53) : double.mul (W a) (W b) = some (W (a * b)) := by
  obtain ⟨k, hk⟩ := read_int a ha
  obtain ⟨l, hl⟩ := read_int b hb
  simp only [Format.mul, hk, hl, Datum.product, Option.map_some, Format.write, Bool.false_bne]
  have e : a * 2 ^ k * (b * 2 ^ l) = a * b * 2 ^ (k + l) := by
    rw [Nat.pow_add, Nat.mul_mul_mul_comm]
  rw [e, show -(k : Int) + -(l : Int) = -((k + l : Nat) : Int) by omega, near_int _ _ h]

/-! ### The order, by integers -/

/-- x is no NaN. -/
def num (x : Nat) : Prop := (double.read x).isNaN = false

def big : Int := ((2 ^ 2200 : Nat) : Int)

def dkey : Datum → Int
  | .number s m e => signed s m (e + 1074).toNat
  | .infinity s => if s then -big else big
  | .nan _ _ => 0

/-- What x stands for, in units of the least double; the infinities beyond all. -/
def key (x : Nat) : Int := dkey (double.read x)

/-- What a reading can be. -/
def fits : Datum → Prop
  | .number _ m e => m < 2 ^ 53 ∧ -1074 ≤ e ∧ e ≤ 971
  | _ => True

theorem read_fits (x : Nat) : fits (double.read x) := by
  unfold Format.read
  simp only [signEq, binadeEq, infEq, least]
  generalize x % 2 ^ 63 = r
  split
  · exact ⟨by omega, by omega, by omega⟩
  · split
    · refine ⟨by omega, by omega, ?_⟩
      have : r / 2 ^ 52 < 2047 := by omega
      omega
    · split <;> trivial

theorem signed_scale (s : Bool) (m k d : Nat) : signed s m (k + d) = signed s m k * ((2 ^ d : Nat) : Int) := by
  cases s
  · rw [signed_false, signed_false, Nat.pow_add, ← Nat.mul_assoc, Int.natCast_mul]
  · rw [signed_true, signed_true, Nat.pow_add, ← Nat.mul_assoc, Int.natCast_mul, Int.neg_mul]

theorem compare_scale (a b : Int) (d : Nat) : compare (a * ((2 ^ d : Nat) : Int)) (b * ((2 ^ d : Nat) : Int)) = compare a b := by
  have hp : (0 : Int) < ((2 ^ d : Nat) : Int) := by have := Nat.two_pow_pos d; omega
  cases h : compare a b with
  | lt => rw [Int.compare_eq_lt] at h ⊢; exact Int.mul_lt_mul_of_pos_right h hp
  | eq => rw [Int.compare_eq_eq] at h ⊢; rw [h]
  | gt => rw [Int.compare_eq_gt] at h ⊢; exact Int.mul_lt_mul_of_pos_right h hp

theorem signed_lt_big (s : Bool) (m k : Nat) (hm : m < 2 ^ 53) (hk : k ≤ 2045) : -big < signed s m k ∧ signed s m k < big := by
  have h1 : m * 2 ^ k < 2 ^ 2200 := by
    calc m * 2 ^ k < 2 ^ 53 * 2 ^ k := Nat.mul_lt_mul_of_pos_right hm (Nat.two_pow_pos _)
      _ = 2 ^ (53 + k) := by rw [Nat.pow_add]
      _ ≤ 2 ^ 2200 := Nat.pow_le_pow_right (by omega) (by omega)
  unfold big
  generalize (2 ^ 2200 : Nat) = B at h1
  cases s
  · rw [signed_false]; omega
  · rw [signed_true]; omega

theorem dorder_key (a b : Datum) (fa : fits a) (fb : fits b) (na : a.isNaN = false) (nb : b.isNaN = false) : a.order b = some (compare (dkey a) (dkey b)) := by
  cases a with
  | nan s t => simp [Datum.isNaN] at na
  | infinity s =>
    cases b with
    | nan s t => simp [Datum.isNaN] at nb
    | infinity t =>
      have hb : 0 < big := by unfold big; have := Nat.two_pow_pos 2200; generalize (2 ^ 2200 : Nat) = B at this; omega
      cases s <;> cases t <;> simp only [Datum.order, dkey]
      · simp
      · have : compare big (-big) = Ordering.gt := by rw [Int.compare_eq_gt]; omega
        simp [this]
        rfl
      · have : compare (-big) big = Ordering.lt := by rw [Int.compare_eq_lt]; omega
        simp [this]
        rfl
      · simp
    | number t m e =>
      obtain ⟨h1, h2, h3⟩ := fb
      obtain ⟨q1, q2⟩ := signed_lt_big t m (e + 1074).toNat h1 (by omega)
      cases s
      · have : compare big (signed t m (e + 1074).toNat) = Ordering.gt := by rw [Int.compare_eq_gt]; exact q2
        simp [Datum.order, dkey, this]
      · have : compare (-big) (signed t m (e + 1074).toNat) = Ordering.lt := by rw [Int.compare_eq_lt]; exact q1
        simp [Datum.order, dkey, this]
  | number s m e =>
    cases b with
    | nan s t => simp [Datum.isNaN] at nb
    | infinity t =>
      obtain ⟨h1, h2, h3⟩ := fa
      obtain ⟨q1, q2⟩ := signed_lt_big s m (e + 1074).toNat h1 (by omega)
      cases t
      · have : compare (signed s m (e + 1074).toNat) big = Ordering.lt := by rw [Int.compare_eq_lt]; exact q2
        simp [Datum.order, dkey, this]
      · have : compare (signed s m (e + 1074).toNat) (-big) = Ordering.gt := by rw [Int.compare_eq_gt]; exact q1
        simp [Datum.order, dkey, this]
    | number t n j =>
      obtain ⟨_, h2, _⟩ := fa
      obtain ⟨_, g2, _⟩ := fb
      simp only [Datum.order, dkey]
      have e1 : (e + 1074).toNat = (e - min e j).toNat + (min e j + 1074).toNat := by omega
      have e2 : (j + 1074).toNat = (j - min e j).toNat + (min e j + 1074).toNat := by omega
      rw [e1, e2, signed_scale, signed_scale, compare_scale]

theorem order_key {x y : Nat} (hx : num x) (hy : num y) : FloatKind.f64.format.order x y = some (compare (key x) (key y)) :=
  dorder_key _ _ (read_fits x) (read_fits y) hx hy

theorem order_lt {x y : Nat} (hx : num x) (hy : num y) (h : key x < key y) : FloatKind.f64.format.order x y = some .lt := by rw [order_key hx hy, Int.compare_eq_lt.2 h]
theorem order_eq {x y : Nat} (hx : num x) (hy : num y) (h : key x = key y) : FloatKind.f64.format.order x y = some .eq := by rw [order_key hx hy, Int.compare_eq_eq.2 h]
theorem order_gt {x y : Nat} (hx : num x) (hy : num y) (h : key y < key x) : FloatKind.f64.format.order x y = some .gt := by rw [order_key hx hy, Int.compare_eq_gt.2 h]

theorem order_nan {x : Nat} (hx : ¬ num x) (y : Nat) : FloatKind.f64.format.order x y = none := by
  show (double.read x).order (double.read y) = none
  unfold num at hx
  cases h : double.read x with
  | number s m e => rw [h] at hx; simp [Datum.isNaN] at hx
  | infinity s => rw [h] at hx; simp [Datum.isNaN] at hx
  | nan s t => simp [Datum.order]

/-! ### What is no NaN -/

theorem num_write (d : Datum) (h : d.isNaN = false) : num (double.write d) := by
  have key : ∀ (neg : Bool) (r : Nat), r ≤ 2047 * 2 ^ 52 → num (double.word neg r) := by
    intro neg r hr
    unfold num
    rw [read_word _ _ (by omega)]
    split
    · rfl
    · split
      · rfl
      · rw [if_pos (by omega)]; rfl
  cases d with
  | nan s t => simp [Datum.isNaN] at h
  | infinity s => exact key s _ (by rw [infEq]; exact Nat.le_refl _)
  | number s m e =>
    simp only [Format.write, Format.nearest]
    split
    · exact key s 0 (Nat.zero_le _)
    · exact key s _ (by rw [infEq]; exact Nat.min_le_right _ _)

theorem sum_notNaN {a b d : Datum} (h : a.sum b = some d) : d.isNaN = false := by
  cases a <;> cases b <;> simp [Datum.sum] at h
  · subst h; rfl
  · subst h; rfl
  · subst h; rfl
  · obtain ⟨_, rfl⟩ := h; rfl

theorem product_notNaN {a b d : Datum} (h : a.product b = some d) : d.isNaN = false := by
  cases a <;> cases b <;> simp [Datum.product] at h
  · subst h; rfl
  · obtain ⟨_, rfl⟩ := h; rfl
  · obtain ⟨_, rfl⟩ := h; rfl
  · subst h; rfl

theorem mul_num {s x p : Nat} (h : double.mul s x = some p) : num p := by
  unfold Format.mul at h
  cases hd : (double.read s).product (double.read x) with
  | none => rw [hd] at h; cases h
  | some d => rw [hd] at h; cases h; exact num_write d (product_notNaN hd)

theorem sub_num {s x p : Nat} (h : double.sub s x = some p) : num p := by
  unfold Format.sub at h
  cases hd : (double.read s).sum (double.read x).opposite with
  | none => rw [hd] at h; cases h
  | some d => rw [hd] at h; cases h; exact num_write d (sum_notNaN hd)

theorem num_W (n : Nat) : num (W n) := num_write (.number false n 0) rfl

/-- One times x is x. -/
theorem mul_one (x : Nat) (h : x < 2 ^ 64) (hx : num x) : double.mul (W 1) x = some x := by
  obtain ⟨neg, r, hr, rfl⟩ : ∃ neg r, r < 2 ^ 63 ∧ x = double.word neg r := by
    by_cases hlt : x < 2 ^ 63
    · exact ⟨false, x, hlt, by simp [Format.word]⟩
    · exact ⟨true, x - 2 ^ 63, by omega, by simp [Format.word, signEq]; omega⟩
  have one : double.read (W 1) = .number false (2 ^ 52) (-52) := by decide
  unfold num at hx
  unfold Format.mul
  rw [one]
  rw [read_word _ _ hr] at hx ⊢
  by_cases c1 : r < 2 ^ 52
  · rw [if_pos c1]
    simp only [Datum.product, Option.map_some, Format.write, Bool.false_bne]
    by_cases h0 : r = 0
    · subst h0; rw [Nat.mul_zero, nearest_zero]
    · have := nearest_repr neg r 52 (-1074) h0 (by omega) (by omega)
      rw [Nat.mul_comm (2 ^ 52) r, show (-52 : Int) + -1074 = -1074 - ((52 : Nat) : Int) by omega, this]
      have hl : r.log2 < 52 := (Nat.log2_lt h0).2 c1
      generalize r.log2 = l at hl
      rw [show max ((-1074 : Int) + (l : Int) - 52) (-1074) = -1074 by omega]
      rw [show ((-1074 : Int) + 1074).toNat = 0 by omega, show ((-1074 : Int) - -1074).toNat = 0 by omega, Nat.zero_mul, Nat.pow_zero, Nat.mul_one, Nat.zero_add, Nat.min_eq_left (by omega)]
  · rw [if_neg c1] at hx ⊢
    by_cases c2 : r < 2047 * 2 ^ 52
    · rw [if_pos c2]
      simp only [Datum.product, Option.map_some, Format.write, Bool.false_bne]
      generalize hE : r / 2 ^ 52 = E
      generalize hf : r % 2 ^ 52 = f
      have hrE : r = E * 2 ^ 52 + f := by omega
      have hf1 : f < 2 ^ 52 := by omega
      have hE1 : 1 ≤ E := by omega
      have h0 : 2 ^ 52 + f ≠ 0 := by omega
      have := nearest_repr neg (2 ^ 52 + f) 52 (-1074 + ((E - 1 : Nat) : Int)) h0 (by omega) (by omega)
      rw [Nat.mul_comm (2 ^ 52) (2 ^ 52 + f), show (-52 : Int) + (-1074 + ((E - 1 : Nat) : Int)) = -1074 + ((E - 1 : Nat) : Int) - ((52 : Nat) : Int) by omega, this]
      have hl : (2 ^ 52 + f).log2 = 52 := by rw [Nat.log2_eq_iff h0]; omega
      rw [hl]
      rw [show max ((-1074 : Int) + ((E - 1 : Nat) : Int) + ((52 : Nat) : Int) - 52) (-1074) = -1074 + ((E - 1 : Nat) : Int) by omega]
      rw [show ((-1074 : Int) + ((E - 1 : Nat) : Int) + 1074).toNat = E - 1 by omega, show ((-1074 : Int) + ((E - 1 : Nat) : Int) - (-1074 + ((E - 1 : Nat) : Int))).toNat = 0 by omega, Nat.pow_zero, Nat.mul_one, Nat.min_eq_left (by omega)]
      rw [show (E - 1) * 2 ^ 52 + (2 ^ 52 + f) = r by omega]
    · rw [if_neg c2] at hx ⊢
      by_cases c3 : r = 2047 * 2 ^ 52
      · rw [if_pos c3]
        simp [Datum.product, Format.write, infEq, c3]
      · rw [if_neg c3] at hx
        simp [Datum.isNaN] at hx
end Go.Proofs.Qxb6602837a
