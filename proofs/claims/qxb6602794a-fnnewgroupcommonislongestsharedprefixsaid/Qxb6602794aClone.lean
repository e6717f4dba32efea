/- The two functions that copy: a list of strings; a list of such lists. -/
import Derived.Test.Qxb6602794aBase
namespace Go.Proofs.Qxb6602794a
open Go.RowKit

theorem Try.info9 : (Try.prog.info? 9).map (fun i => (i.zero, i.size, i.bytes)) = some (some (.string ⟨#[]⟩), 1, 16) := by kernel_rfl
theorem Try.info29 : (Try.prog.info? 29).map (fun i => (i.zero, i.size, i.bytes)) = some (some (.slice none 0 0), 1, 24) := by kernel_rfl

/-- The copy under way: k strings are copied. -/
def rowS (S : Nat → ByteArray) (k : Nat) : Nat → Value := fun i => if i < k then .string (S i) else .string ⟨#[]⟩

structure ClS (w wr : World) (n k : Nat) (S : Nat → ByteArray) : Prop where
  below : Below w.heap.size w wr
  row : wr.rowIs w.heap.size 9 n (rowS S k)

theorem cls_start (w : World) (n : Nat) (S : Nat → ByteArray) : ClS w (w.alloc (.cells (madeCells #[.string ⟨#[]⟩] n) 9)) n 0 S :=
  ⟨(Below.refl _ _).alloc (Nat.le_refl _) _, (World.rowIs_made w _ n 9).congr (fun j _ => by simp [rowS])⟩

theorem cls_step {w wr : World} {n k : Nat} {S : Nat → ByteArray} (h : ClS w wr n k S) : ClS w (wr.setCell ⟨w.heap.size, k, none⟩ (.string (S k))) n (k + 1) S :=
  ⟨h.below.setCell (Nat.le_refl _) _, (h.row.set k _).congr (fun j _ => by
    simp only [rowS]
    by_cases e : j = k
    · subst e; simp
    · rw [if_neg e]
      by_cases hlt : j < k
      · rw [if_pos hlt, if_pos (by omega)]
      · rw [if_neg hlt, if_neg (by omega)])⟩

/-- What the copy of a list of strings leaves. -/
def ClPost (n : Nat) (S : Nat → ByteArray) (w : World) (e : Ending) (w' : World) : Prop :=
  ∃ (a' : Option Addr) (c' : Nat), e = .returned (.slice a' n c') ∧ (0 < n → a' = some ⟨w.heap.size, 0, none⟩ ∧ w'.rowIs w.heap.size 9 n (fun i => .string (S i))) ∧ Below w.heap.size w w'

set_option maxHeartbeats 400000 in
theorem clone_list (a : Option Addr) (n c : Nat) (S : Nat → ByteArray) (w : World) (hn : n ≤ 1048576) (h : SAt w a n S) :
    Calls Try.prog 14 #[.slice a n c] w fun e w' => ClPost n S w e w' := by
  obtain ⟨b, o, ha, hc⟩ := h
  have heq := fun w => Lib.run_eql_slice_nil (P := Try.prog) w 29 9 a n c 0 0 Try.underlying29
  have hmk := run_make_row' (P := Try.prog) 29 9 (.string ⟨#[]⟩) 16 Try.underlying29 Try.info9 rfl .i64 .i64 n (by omega) (by omega)
  cases a with
  | none =>
    have hn0 : n = 0 := by
      by_cases h0 : 0 < n
      · have := ha h0; cases this
      · omega
    subst hn0
    go_enter Try.func14, Try.ntmps14
    go_wp2
    go_ret
    exact ⟨_, _, rfl, fun h => absurd h (Nat.lt_irrefl _), Below.refl _ _⟩
  | some x =>
    go_enter Try.func14, Try.ntmps14
    go_wp2
    clear hmk heq
    go_loopg [4] n (fun g i wr => ∃ k : Nat, g = n - k ∧ k ≤ n ∧ i = .int .i64 k ∧ ClS w wr n k S)
    case atStart => exact ⟨0, rfl, Nat.zero_le _, rfl, cls_start w n S⟩
    case round =>
      obtain ⟨k, rfl, hk, rfl, hC⟩ := hrel
      by_cases hlt : k < n
      · have hx := Option.some.inj (ha (by omega))
        subst hx
        have hz : (k : Int) < n := by omega
        have hck : wr.cell? ⟨b, o + k, none⟩ = some (.string (S k)) := by
          rw [hC.below.cell (p := ⟨b, o + k, none⟩) (World.block_lt_of_cell? _ _ (hc k hlt))]; exact hc k hlt
        have hst := hC.row.cell hlt
        have hfr := hC.row.frozen k
        have hC' := cls_step hC
        clear hc ha hC
        go_wp2
        go_roundg (n - (k + 1))
        case measure => omega
        case rel => exact ⟨k + 1, rfl, by omega, by go_num, hC'⟩
      · have hz : ¬ (k : Int) < n := by omega
        have hkn : k = n := by omega
        have hrow := hC.row.congr (g := fun i => .string (S i)) (fun i hi => by simp only [rowS]; rw [if_pos (by omega)])
        have hbel := hC.below
        clear hc ha hC hkn
        go_wp2
        go_ret
        exact ⟨_, _, rfl, fun _ => ⟨rfl, hrow⟩, hbel⟩

/-- The outer copy under way: k lists are copied. -/
def rowT (A : Nat → Option Addr) (L C : Nat → Nat) (k : Nat) : Nat → Value := fun i => if i < k then .slice (A i) (L i) (C i) else .slice none 0 0

structure ClT (w wr : World) (n k : Nat) (A : Nat → Option Addr) (L C : Nat → Nat) (R : Nat → Nat) (S : Nat → Nat → ByteArray) : Prop where
  below : Below w.heap.size w wr
  row : wr.rowIs w.heap.size 29 n (rowT A L C k)
  inner : ∀ i, i < k → 0 < L i → A i = some ⟨R i, 0, none⟩ ∧ w.heap.size < R i ∧ wr.rowIs (R i) 9 (L i) (fun j => .string (S i j))

theorem clt_start (w : World) (n : Nat) (A : Nat → Option Addr) (L C R : Nat → Nat) (S : Nat → Nat → ByteArray) : ClT w (w.alloc (.cells (madeCells #[.slice none 0 0] n) 29)) n 0 A L C R S :=
  ⟨(Below.refl _ _).alloc (Nat.le_refl _) _, (World.rowIs_made w _ n 29).congr (fun j _ => by simp [rowT]), fun i hi => absurd hi (Nat.not_lt_zero _)⟩

theorem clt_step {w wr w1 : World} {n k : Nat} {A : Nat → Option Addr} {L C R : Nat → Nat} {S : Nat → Nat → ByteArray} (h : ClT w wr n k A L C R S) {a' : Option Addr} {c' : Nat} (hsz : w.heap.size < wr.heap.size)
    (hr : 0 < L k → a' = some ⟨wr.heap.size, 0, none⟩ ∧ w1.rowIs wr.heap.size 9 (L k) (fun i => .string (S k i))) (hb : Below wr.heap.size wr w1) :
    ClT w (w1.setCell ⟨w.heap.size, k, none⟩ (.slice a' (L k) c')) n (k + 1) (fun i => if i = k then a' else A i) L (fun i => if i = k then c' else C i) (fun i => if i = k then wr.heap.size else R i) S := by
  refine ⟨(h.below.trans (hb.mono (by omega))).setCell (Nat.le_refl _) _, (((h.row.of_block (hb.block _ hsz)).set k _).congr (fun j _ => ?_)), fun i hi hL => ?_⟩
  · simp only [rowT]
    by_cases e : j = k
    · subst e; simp
    · rw [if_neg e, if_neg e, if_neg e]
      by_cases hlt : j < k
      · rw [if_pos hlt, if_pos (by omega)]
      · rw [if_neg hlt, if_neg (by omega)]
  · by_cases e : i = k
    · subst e
      obtain ⟨r1, r2⟩ := hr hL
      simp only [if_true]
      exact ⟨r1, hsz, r2.setOther (by show wr.heap.size ≠ w.heap.size; omega) _⟩
    · simp only [if_neg e]
      obtain ⟨r1, r2, r3⟩ := h.inner i (by omega) hL
      exact ⟨r1, r2, (r3.of_block (hb.block _ r3.lt)).setOther (by show R i ≠ w.heap.size; omega) _⟩

/-- What the copy of a list of lists leaves: a list of the same lists. -/
def CtPost (n : Nat) (L : Nat → Nat) (S : Nat → Nat → ByteArray) (w : World) (e : Ending) (w' : World) : Prop :=
  ∃ (a' : Option Addr) (A' : Nat → Option Addr) (C' : Nat → Nat), e = .returned (.slice a' n n) ∧ TAt w' a' n A' L C' S ∧ Below w.heap.size w w'

theorem clt_end {w wr : World} {n : Nat} {A : Nat → Option Addr} {L C R : Nat → Nat} {S : Nat → Nat → ByteArray} (h : ClT w wr n n A L C R S) : TAt wr (some ⟨w.heap.size, 0, none⟩) n A L C S :=
  ⟨⟨w.heap.size, 0, fun _ => rfl, fun i hi => by rw [Nat.zero_add, h.row.cell hi]; simp [rowT, hi]⟩, fun i hi => ⟨R i, 0, fun hL => (h.inner i hi hL).1, fun j hj => by rw [Nat.zero_add]; exact (h.inner i hi (by omega)).2.2.cell hj⟩⟩

set_option maxHeartbeats 400000 in
theorem clone_tags (a : Option Addr) (n c : Nat) (A : Nat → Option Addr) (L C : Nat → Nat) (S : Nat → Nat → ByteArray) (w : World) (hn : n ≤ 1048576) (hL : ∀ i, i < n → L i ≤ 1048576) (h : TAt w a n A L C S) :
    Calls Try.prog 8 #[.slice a n c] w fun e w' => CtPost n L S w e w' := by
  obtain ⟨⟨b, o, ha, hc⟩, hs⟩ := h
  have heq := fun w => Lib.run_eql_slice_nil (P := Try.prog) w 22 29 a n c 0 0 Try.underlying22
  have hmk := run_make_row' (P := Try.prog) 22 29 (.slice none 0 0) 24 Try.underlying22 Try.info29 rfl .i64 .i64 n (by omega) (by omega)
  cases a with
  | none =>
    have hn0 : n = 0 := by
      by_cases h0 : 0 < n
      · have := ha h0; cases this
      · omega
    subst hn0
    go_enter Try.func8, Try.ntmps8
    go_wp2
    go_ret
    exact ⟨_, fun _ => none, fun _ => 0, rfl, ⟨⟨0, 0, fun h => absurd h (Nat.lt_irrefl _), fun i h => absurd h (Nat.not_lt_zero _)⟩, fun i h => absurd h (Nat.not_lt_zero _)⟩, Below.refl _ _⟩
  | some x =>
    go_enter Try.func8, Try.ntmps8
    go_wp2
    clear hmk heq
    go_loopg [4] n (fun g i wr => ∃ (k : Nat) (A' : Nat → Option Addr) (C' R' : Nat → Nat), g = n - k ∧ k ≤ n ∧ i = .int .i64 k ∧ ClT w wr n k A' L C' R' S)
    case atStart => exact ⟨0, fun _ => none, fun _ => 0, fun _ => 0, rfl, Nat.zero_le _, rfl, clt_start w n _ L _ _ S⟩
    case round =>
      obtain ⟨k, A', C', R', rfl, hk, rfl, hC⟩ := hrel
      by_cases hlt : k < n
      · have hx := Option.some.inj (ha (by omega))
        subst hx
        have hz : (k : Int) < n := by omega
        have hck : wr.cell? ⟨b, o + k, none⟩ = some (.slice (A k) (L k) (C k)) := by
          rw [hC.below.cell (p := ⟨b, o + k, none⟩) (World.block_lt_of_cell? _ _ (hc k hlt))]; exact hc k hlt
        have hsz := hC.row.lt
        obtain ⟨b1, o1, ha1, hc1⟩ := hs k hlt
        have hsk : SAt wr (A k) (L k) (S k) := ⟨b1, o1, ha1, fun j hj => by rw [hC.below.cell (p := ⟨b1, o1 + j, none⟩) (World.block_lt_of_cell? _ _ (hc1 j hj))]; exact hc1 j hj⟩
        have hLk := hL k hlt
        clear hc ha hs ha1 hc1 hL
        go_wp2_with fail
        refine (clone_list (A k) (L k) _ (S k) wr hLk hsk).mono ?_
        rintro e w1 ⟨a', c', rfl, hr, hb⟩
        have hst : w1.cell? ⟨w.heap.size, k, none⟩ = some (rowT A' L C' k k) := (hC.row.of_block (hb.block _ hsz)).cell hlt
        have hfr : w1.frozen? ⟨w.heap.size, k, none⟩ = false := (hC.row.of_block (hb.block _ hsz)).frozen k
        have hC' := clt_step (c' := c') hC hsz hr hb
        clear hC hr hb hsk hck
        go_wp2
        go_roundg (n - (k + 1))
        case measure => omega
        case rel => exact ⟨k + 1, _, _, _, rfl, by omega, by go_num, hC'⟩
      · have hz : ¬ (k : Int) < n := by omega
        have hkn : k = n := by omega
        have hC2 : ClT w wr n n A' L C' R' S := by rw [hkn] at hC; exact hC
        have hT := clt_end hC2
        have hbel := hC.below
        clear hc ha hC hkn hs hL hC2
        go_wp2
        go_ret
        exact ⟨_, A', C', rfl, hT, hbel⟩
end Go.Proofs.Qxb6602794a
