/- newGroup and ZZNewGroup. -/
import Derived.Test.Qxb6602794aBase
import Derived.Test.Qxb6602794aPlain
import Derived.Deep.QuietTactic
import Derived.BigQuiet
namespace Go.Proofs.Qxb6602794a
open Go.RowKit

/-- The struct's three cells. -/
def grp (s : ByteArray) (cm : Nat) (mt : Bool) : Nat → Value := fun i => if i = 0 then .string s else if i = 1 then .int .i64 cm else .bool mt

def NgPost (s : ByteArray) (n : Nat) (mt : Bool) (L : Nat → Nat) (S : Nat → Nat → ByteArray) (w : World) (e : Ending) (w' : World) : Prop :=
  ∃ cm : Nat, e = .returned (.agg #[.string s, .int .i64 cm, .bool mt]) ∧ Com n L S cm ∧ Below w.heap.size w w'

structure GrpW (w wr : World) (s : ByteArray) (cm : Nat) (mt : Bool) : Prop where
  below : Below w.heap.size w wr
  res : wr.rowIs w.heap.size 34 3 (grp ⟨#[]⟩ 0 false)
  row : wr.rowIs (w.heap.size + 1) 34 3 (grp s cm mt)

theorem grpw_start (w : World) (s : ByteArray) (cm : Nat) (mt : Bool) :
    GrpW w ((w.alloc (.cells #[.string ⟨#[]⟩, .int .i64 0, .bool false] 34)).alloc (.cells #[.string s, .int .i64 cm, .bool mt] 34)) s cm mt := by
  refine ⟨((Below.refl _ _).alloc (Nat.le_refl _) _).alloc (by simp) _, ?_, ?_⟩
  · exact World.rowIs.alloc (World.rowIs_alloc w #[.string ⟨#[]⟩, .int .i64 0, .bool false] 34 (grp ⟨#[]⟩ 0 false) (fun i hi => by
      have hi3 : i < 3 := hi
      rcases (show i = 0 ∨ i = 1 ∨ i = 2 by omega) with rfl | rfl | rfl <;> rfl)) _
  · have h := World.rowIs_alloc (w.alloc (.cells #[.string ⟨#[]⟩, .int .i64 0, .bool false] 34)) #[.string s, .int .i64 cm, .bool mt] 34 (grp s cm mt) (fun i hi => by
      have hi3 : i < 3 := hi
      rcases (show i = 0 ∨ i = 1 ∨ i = 2 by omega) with rfl | rfl | rfl <;> rfl)
    simpa using h

theorem grpw_step {w wr : World} {s : ByteArray} {cm : Nat} {mt : Bool} (h : GrpW w wr s cm mt) (q j : Nat) : GrpW w ((wr.setCell ⟨w.heap.size + 1, 1, none⟩ (.int .i64 j)).drewN q) s j mt := by
  refine ⟨?_, ?_, ?_⟩
  · have h1 := h.below.setCell (p := ⟨w.heap.size + 1, 1, none⟩) (by show w.heap.size ≤ w.heap.size + 1; omega) (.int .i64 j)
    exact ⟨h1.os, h1.tape, h1.output, h1.size, h1.block⟩
  · exact (h.res.setOther (a := ⟨w.heap.size + 1, 1, none⟩) (by show w.heap.size ≠ w.heap.size + 1; omega) (.int .i64 j))
  · refine World.rowIs.of_block (w := wr.setCell ⟨w.heap.size + 1, 1, none⟩ (.int .i64 j)) ((h.row.set 1 _).congr (fun i hi => ?_)) rfl
    rcases (show i = 0 ∨ i = 1 ∨ i = 2 by omega) with rfl | rfl | rfl <;> simp [grp]

theorem set_cell {w : World} {b : Nat} {t : TypeId} {n : Nat} {f : Nat → Value} (h : w.rowIs b t n f) {i : Nat} (hi : i < n) (v : Value) : (w.setCell ⟨b, i, none⟩ v).cell? ⟨b, i, none⟩ = some v := by
  have := (h.set i v).cell hi
  simpa using this

theorem grpw_end {w wr : World} {s : ByteArray} {cm : Nat} {mt : Bool} (h : GrpW w wr s cm mt) (v0 v1 v2 : Value) :
    Below w.heap.size w (((wr.setCell ⟨w.heap.size, 0, none⟩ v0).setCell ⟨w.heap.size, 1, none⟩ v1).setCell ⟨w.heap.size, 2, none⟩ v2) :=
  ((h.below.setCell (Nat.le_refl _) _).setCell (Nat.le_refl _) _).setCell (Nat.le_refl _) _

set_option maxHeartbeats 400000 in
theorem group_none (s : ByteArray) (a : Option Addr) (mt : Bool) (L : Nat → Nat) (S : Nat → Nat → ByteArray) (w : World) :
    Calls Try.prog 15 #[.string s, .slice a 0 0, .bool mt] w fun e w' => NgPost s 0 mt L S w e w' := by
  go_enter Try.func15, Try.ntmps15
  go_wp2
  refine bodyPost_ret (v := .agg #[.string s, .int .i64 0, .bool mt]) (by simp [results, Try.results15, go_sem]) rfl ⟨0, rfl, ?_, ?_⟩
  · exact com_none L S
  · exact (((Below.refl _ _).alloc (Nat.le_refl _) _).alloc (by simp) _)

set_option maxHeartbeats 400000 in
theorem group_more (s : ByteArray) (b o n : Nat) (mt : Bool) (A : Nat → Option Addr) (L C : Nat → Nat) (S : Nat → Nat → ByteArray) (w : World) (hn : 2 ≤ n) (hn1 : n ≤ maxLen) (hL : ∀ i, i < n → L i ≤ maxLen)
    (hc : ∀ i, i < n → w.cell? ⟨b, o + i, none⟩ = some (.slice (A i) (L i) (C i))) (hs : ∀ i, i < n → SAt w (A i) (L i) (S i)) :
    Calls Try.prog 15 #[.string s, .slice (some ⟨b, o, none⟩) n n, .bool mt] w fun e w' => NgPost s n mt L S w e w' := by
  unfold maxLen at hn1 hL
  have hz0 : ((n : Int) == 0) = false := by simp; omega
  have hne : ¬ n = 1 := by omega
  have hc0 : w.cell? ⟨b, o, none⟩ = some (.slice (A 0) (L 0) (C 0)) := hc 0 (by omega)
  have hL0 := hL 0 (by omega)
  have hbs : b < w.heap.size := World.block_lt_of_cell? _ _ hc0
  go_enter Try.func15, Try.ntmps15
  go_wp2
  go_loopg [26] (n - 1) (fun g i wr => ∃ k cm : Nat, g = n - 1 - k ∧ k ≤ n - 1 ∧ i = .int .i64 k ∧ GrpW w wr s cm mt ∧ Hid (Com (k + 1) L S cm) ∧ cm ≤ L 0)
  case atStart => exact ⟨0, L 0, rfl, Nat.zero_le _, rfl, grpw_start w s (L 0) mt, com_one L S, Nat.le_refl _⟩
  case round =>
    obtain ⟨k, cm, rfl, hk, rfl, hG, hCom, hcm⟩ := hrel
    by_cases hlt : k < n - 1
    · have hz : (k : Int) < ((n - 1 : Nat) : Int) := by omega
      have hk1 : k + 1 < n := by omega
      have c0 : wr.cell? ⟨b, o, none⟩ = some (.slice (A 0) (L 0) (C 0)) := by rw [hG.below.cell (p := ⟨b, o, none⟩) hbs]; exact hc0
      have ck : wr.cell? ⟨b, o + 1 + k, none⟩ = some (.slice (A (k + 1)) (L (k + 1)) (C (k + 1))) := by
        rw [hG.below.cell (p := ⟨b, o + 1 + k, none⟩) hbs, show o + 1 + k = o + (k + 1) by omega]; exact hc _ hk1
      have g1 : wr.cell? ⟨w.heap.size + 1, 1, none⟩ = some (.int .i64 cm) := hG.row.cell (i := 1) (by omega)
      have g1f : wr.frozen? ⟨w.heap.size + 1, 1, none⟩ = false := hG.row.frozen 1
      have hLk := hL (k + 1) hk1
      obtain ⟨b0, o0, ha0, hs0⟩ := hs 0 (by omega)
      obtain ⟨b1, o1, ha1, hs1⟩ := hs (k + 1) hk1
      have hS0 : ∀ j, j < L 0 → wr.cell? ⟨b0, o0 + j, none⟩ = some (.string (S 0 j)) := fun j hj => by
        rw [hG.below.cell (p := ⟨b0, o0 + j, none⟩) (World.block_lt_of_cell? _ _ (hs0 j hj))]; exact hs0 j hj
      have hS1 : ∀ j, j < L (k + 1) → wr.cell? ⟨b1, o1 + j, none⟩ = some (.string (S (k + 1) j)) := fun j hj => by
        rw [hG.below.cell (p := ⟨b1, o1 + j, none⟩) (World.block_lt_of_cell? _ _ (hs1 j hj))]; exact hs1 j hj
      clear hc hs hs0 hs1 hc0 hL
      go_wp2
      go_loopg [10] cm (fun g v wx => ∃ j q : Nat, wx = wr.drewN q ∧ g = cm - j ∧ j ≤ cm ∧ j ≤ L (k + 1) ∧ v = .int .i64 j ∧ Hid (∀ i, i < j → S (k + 1) i = S 0 i))
      case atStart => exact ⟨0, 0, rfl, rfl, Nat.zero_le _, Nat.zero_le _, rfl, fun i hi => absurd hi (Nat.not_lt_zero _)⟩
      case round =>
        obtain ⟨j, q, rfl, rfl, hj1, hj2, rfl, hH⟩ := hrel
        by_cases t1 : j < cm
        · by_cases t2 : j < L (k + 1)
          · have d1 : decide ((j : Int) < (cm : Int)) = true := by simpa using t1
            have d2 : decide ((j : Int) < (L (k + 1) : Int)) = true := by simpa using t2
            have A0 := ha0 (by omega)
            have A1 := ha1 (by omega)
            have s0 := hS0 j (by omega)
            have s1 := hS1 j t2
            clear hS0 hS1 ha0 ha1
            by_cases t3 : S (k + 1) j = S 0 j
            · have t3b := str_eq t3
              have T3 : Hid (S (k + 1) j = S 0 j) := t3
              clear t3
              go_wp2_with fail
              go_quiet (fail)
              go_wp2
              go_roundg (cm - (j + 1))
              case measure => omega
              case rel => exact ⟨j + 1, _, rfl, rfl, by omega, by omega, by go_num, fun i hi => by rcases Nat.lt_succ_iff_lt_or_eq.1 hi with h | h; exact hH i h; subst h; exact T3.out⟩
            · have t3b := str_ne t3
              go_wp2_with fail
              go_quiet (fail)
              go_wp2
              go_roundg (n - 1 - (k + 1))
              case measure => omega
              case rel => exact ⟨k + 1, j, rfl, by omega, by go_num, grpw_step hG _ j, com_step hCom.out hj1 hj2 hH.out (Or.inr (Or.inr t3)), by omega⟩
          · have d1 : decide ((j : Int) < (cm : Int)) = true := by simpa using t1
            have d2 : decide ((j : Int) < (L (k + 1) : Int)) = false := by simpa using t2
            clear hS0 hS1 ha0 ha1
            go_wp2_with fail
            go_quiet (fail)
            go_wp2
            go_roundg (n - 1 - (k + 1))
            case measure => omega
            case rel => exact ⟨k + 1, j, rfl, by omega, by go_num, grpw_step hG _ j, com_step hCom.out hj1 hj2 hH.out (Or.inr (Or.inl (by omega))), by omega⟩
        · have d1 : decide ((j : Int) < (cm : Int)) = false := by simpa using t1
          clear hS0 hS1 ha0 ha1
          go_wp2_with fail
          go_quiet (fail)
          go_wp2
          go_roundg (n - 1 - (k + 1))
          case measure => omega
          case rel => exact ⟨k + 1, j, rfl, by omega, by go_num, grpw_step hG _ j, com_step hCom.out hj1 hj2 hH.out (Or.inl (by omega)), by omega⟩
    · have hz : ¬ (k : Int) < ((n - 1 : Nat) : Int) := by omega
      have g0 : wr.cell? ⟨w.heap.size + 1, 0, none⟩ = some (.string s) := hG.row.cell (i := 0) (by omega)
      have g1 : wr.cell? ⟨w.heap.size + 1, 1, none⟩ = some (.int .i64 cm) := hG.row.cell (i := 1) (by omega)
      have g2 : wr.cell? ⟨w.heap.size + 1, 2, none⟩ = some (.bool mt) := hG.row.cell (i := 2) (by omega)
      have r0 : wr.cell? ⟨w.heap.size, 0, none⟩ = some (.string ⟨#[]⟩) := hG.res.cell (i := 0) (by omega)
      have r1 : wr.cell? ⟨w.heap.size, 1, none⟩ = some (.int .i64 0) := hG.res.cell (i := 1) (by omega)
      have r2 : wr.cell? ⟨w.heap.size, 2, none⟩ = some (.bool false) := hG.res.cell (i := 2) (by omega)
      have f0 : wr.frozen? ⟨w.heap.size, 0, none⟩ = false := hG.res.frozen 0
      have f1 : wr.frozen? ⟨w.heap.size, 1, none⟩ = false := hG.res.frozen 1
      have f2 : wr.frozen? ⟨w.heap.size, 2, none⟩ = false := hG.res.frozen 2
      have q0 := set_cell hG.res (i := 0) (by omega) (.string s)
      have q1 := set_cell (hG.res.set 0 (.string s)) (i := 1) (by omega) (.int .i64 cm)
      have q2 := set_cell ((hG.res.set 0 (.string s)).set 1 (.int .i64 cm)) (i := 2) (by omega) (.bool mt)
      clear hc hs hc0 hL
      go_wp2
      refine bodyPost_ret (v := .agg #[.string s, .int .i64 cm, .bool mt]) (by simp [results, Try.results15, go_sem, q0, q1, q2]) rfl ⟨cm, rfl, ?_, ?_⟩
      · rw [show n = k + 1 by omega]; exact hCom.out
      · exact grpw_end hG _ _ _
set_option maxHeartbeats 400000 in
theorem group_one (s : ByteArray) (b o : Nat) (mt : Bool) (A : Nat → Option Addr) (L C : Nat → Nat) (S : Nat → Nat → ByteArray) (w : World)
    (hc0 : w.cell? ⟨b, o, none⟩ = some (.slice (A 0) (L 0) (C 0))) :
    Calls Try.prog 15 #[.string s, .slice (some ⟨b, o, none⟩) 1 1, .bool mt] w fun e w' => NgPost s 1 mt L S w e w' := by
  have hbs : b < w.heap.size := World.block_lt_of_cell? _ _ hc0
  go_enter Try.func15, Try.ntmps15
  go_wp2
  refine wp_loop_rounds 1 ?_
  rw [rounds_succ]
  go_wp2
  refine bodyPost_ret (v := .agg #[.string s, .int .i64 (L 0), .bool mt]) (by simp [results, Try.results15, go_sem]) rfl ⟨L 0, rfl, ?_, ?_⟩
  · exact com_one L S
  · exact (((Below.refl _ _).alloc (Nat.le_refl _) _).alloc (by simp) _)

/-- newGroup, whatever the forms. -/
theorem group_any (s : ByteArray) (a : Option Addr) (n : Nat) (mt : Bool) (A : Nat → Option Addr) (L C : Nat → Nat) (S : Nat → Nat → ByteArray) (w : World) (hn1 : n ≤ maxLen) (hL : ∀ i, i < n → L i ≤ maxLen) (h : TAt w a n A L C S) :
    Calls Try.prog 15 #[.string s, .slice a n n, .bool mt] w fun e w' => NgPost s n mt L S w e w' := by
  obtain ⟨⟨b, o, ha, hc⟩, hs⟩ := h
  by_cases h0 : n = 0
  · subst h0; exact group_none s a mt L S w
  · obtain rfl := ha (by omega)
    by_cases h1 : n = 1
    · subst h1; exact group_one s b o mt A L C S w (hc 0 (by omega))
    · exact group_more s b o n mt A L C S w (by omega) hn1 hL hc hs

def ZgPost (s : ByteArray) (n : Nat) (mt : Bool) (L : Nat → Nat) (S : Nat → Nat → ByteArray) (w : World) (e : Ending) (w' : World) : Prop :=
  ∃ cm : Nat, e = .returned (.tuple #[.string s, .int .i64 cm, .bool mt]) ∧ Com n L S cm ∧ Below w.heap.size w w'

set_option maxHeartbeats 400000 in
theorem zz_group (s : ByteArray) (a : Option Addr) (n : Nat) (mt : Bool) (A : Nat → Option Addr) (L C : Nat → Nat) (S : Nat → Nat → ByteArray) (w : World) (hn1 : n ≤ maxLen) (hL : ∀ i, i < n → L i ≤ maxLen) (h : TAt w a n A L C S) :
    Calls Try.prog 9 #[.string s, .slice a n n, .bool mt] w fun e w' => ZgPost s n mt L S w e w' := by
  go_enter Try.func9, Try.ntmps9
  go_wp2_with fail
  refine (group_any s a n mt A L C S w hn1 hL h).mono ?_
  rintro e w1 ⟨cm, rfl, hCom, hb⟩
  have HC : Hid (Com n L S cm) := hCom
  clear hCom
  go_wp2
  go_quiet (fail)
  go_wp2
  go_ret3
  exact ⟨cm, rfl, HC.out, below_drewN (hb.alloc hb.size _) _⟩
end Go.Proofs.Qxb6602794a
