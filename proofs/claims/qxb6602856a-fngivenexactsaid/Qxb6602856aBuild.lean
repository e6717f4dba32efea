/- buildSource. -/
import Derived.Test.Qxb6602856aSmall
namespace Go.Proofs.Qxb6602856a
open Go.RowKit

/-- A source at block B: which of its four pointers are set. -/
def SrcAt (w : World) (B : Nat) (a b c d : Bool) : Prop :=
  ∃ P0 P1 P2 P3 : Option Addr, w.cell? ⟨B, 0, none⟩ = some (.pointer P0) ∧ w.cell? ⟨B, 1, none⟩ = some (.pointer P1) ∧ w.cell? ⟨B, 2, none⟩ = some (.pointer P2) ∧ w.cell? ⟨B, 3, none⟩ = some (.pointer P3) ∧
    P0.isSome = a ∧ P1.isSome = b ∧ P2.isSome = c ∧ P3.isSome = d

/-- What its first pointer leads to, if it is set. -/
def FldAt (w : World) (B : Nat) (a : Bool) (s1 s2 : ByteArray) : Prop :=
  a = true → ∃ g, w.cell? ⟨B, 0, none⟩ = some (.pointer (some ⟨g, 0, none⟩)) ∧ w.cell? ⟨g, 0, none⟩ = some (.string s1) ∧ w.cell? ⟨g, 1, none⟩ = some (.string s2)

theorem src_below {w w' : World} {B : Nat} {a b c d : Bool} (h : SrcAt w B a b c d) (hb : Below w.heap.size w w') : SrcAt w' B a b c d := by
  obtain ⟨P0, P1, P2, P3, c0, c1, c2, c3, r⟩ := h
  have hB : B < w.heap.size := World.block_lt_of_cell? _ _ c0
  exact ⟨P0, P1, P2, P3, by rw [hb.cell (p := ⟨B, 0, none⟩) hB]; exact c0, by rw [hb.cell (p := ⟨B, 1, none⟩) hB]; exact c1, by rw [hb.cell (p := ⟨B, 2, none⟩) hB]; exact c2, by rw [hb.cell (p := ⟨B, 3, none⟩) hB]; exact c3, r⟩

theorem fld_below {w w' : World} {B : Nat} {a : Bool} {s1 s2 : ByteArray} (h : FldAt w B a s1 s2) (hb : Below w.heap.size w w') : FldAt w' B a s1 s2 := fun e => by
  obtain ⟨g, c0, c1, c2⟩ := h e
  exact ⟨g, by rw [hb.cell (p := ⟨B, 0, none⟩) (World.block_lt_of_cell? _ _ c0)]; exact c0, by rw [hb.cell (p := ⟨g, 0, none⟩) (World.block_lt_of_cell? _ _ c1)]; exact c1, by rw [hb.cell (p := ⟨g, 1, none⟩) (World.block_lt_of_cell? _ _ c2)]; exact c2⟩

def BsPost (a : Bool) (s1 s2 : ByteArray) (b c d : Bool) (w : World) (e : Ending) (w' : World) : Prop :=
  e = .returned (.pointer (some ⟨w.heap.size, 0, none⟩)) ∧ SrcAt w' w.heap.size a b c d ∧ FldAt w' w.heap.size a s1 s2 ∧ Below w.heap.size w w'

theorem src_of {w W : World} {P0 P1 P2 P3 : Option Addr} (hb : Below (w.heap.size + 1) (w.alloc (.cells #[.pointer P0, .pointer P1, .pointer P2, .pointer P3] 35)) W) :
    SrcAt W w.heap.size P0.isSome P1.isSome P2.isSome P3.isSome ∧ Below w.heap.size w W := by
  have hc : ∀ i, W.cell? ⟨w.heap.size, i, none⟩ = (w.alloc (.cells #[.pointer P0, .pointer P1, .pointer P2, .pointer P3] 35)).cell? ⟨w.heap.size, i, none⟩ := fun i => hb.cell (p := ⟨w.heap.size, i, none⟩) (Nat.lt_succ_self _)
  refine ⟨⟨P0, P1, P2, P3, ?_, ?_, ?_, ?_, rfl, rfl, rfl, rfl⟩, ((Below.refl _ _).alloc (Nat.le_refl _) _).trans (hb.mono (Nat.le_succ _))⟩
  all_goals
    rw [hc]
    simp

theorem fld_of {w W : World} {P1 P2 P3 : Option Addr} {s1 s2 : ByteArray} (hb : Below (w.heap.size + 2) ((w.alloc (.cells #[.pointer (some ⟨w.heap.size + 1, 0, none⟩), .pointer P1, .pointer P2, .pointer P3] 35)).alloc (.cells #[.string s1, .string s2] 37)) W) :
    FldAt W w.heap.size true s1 s2 := fun _ => by
  refine ⟨w.heap.size + 1, ?_, ?_, ?_⟩
  · rw [hb.cell (p := ⟨w.heap.size, 0, none⟩) (show w.heap.size < w.heap.size + 2 by omega)]; simp
  · rw [hb.cell (p := ⟨w.heap.size + 1, 0, none⟩) (Nat.lt_succ_self _)]; simp
  · rw [hb.cell (p := ⟨w.heap.size + 1, 1, none⟩) (Nat.lt_succ_self _)]; simp

set_option maxHeartbeats 4000000 in
theorem build_any (a : Bool) (s1 s2 : ByteArray) (b c d : Bool) (w : World) :
    Calls Try.prog 11 #[.bool a, .string s1, .string s2, .bool b, .bool c, .bool d] w fun e w' => BsPost a s1 s2 b c d w e w' := by
  cases a <;> cases b <;> cases c <;> cases d
  · go_enter Try.func11, Try.ntmps11
    go_wp2
    go_ret
    exact ⟨rfl, (src_of (w := w) (P0 := none) (P1 := none) (P2 := none) (P3 := none) (Below.refl _ _)).1, (fun h => absurd h (by decide)), (src_of (w := w) (P0 := none) (P1 := none) (P2 := none) (P3 := none) (Below.refl _ _)).2⟩
  · go_enter Try.func11, Try.ntmps11
    go_wp2
    go_ret
    exact ⟨rfl, (src_of (w := w) (P0 := none) (P1 := none) (P2 := none) (P3 := (some ⟨w.heap.size + 1, 0, none⟩)) ((Below.refl _ _).alloc (by simp) _)).1, (fun h => absurd h (by decide)), (src_of (w := w) (P0 := none) (P1 := none) (P2 := none) (P3 := (some ⟨w.heap.size + 1, 0, none⟩)) ((Below.refl _ _).alloc (by simp) _)).2⟩
  · go_enter Try.func11, Try.ntmps11
    go_wp2
    go_ret
    exact ⟨rfl, (src_of (w := w) (P0 := none) (P1 := none) (P2 := (some ⟨w.heap.size + 1, 0, none⟩)) (P3 := none) ((Below.refl _ _).alloc (by simp) _)).1, (fun h => absurd h (by decide)), (src_of (w := w) (P0 := none) (P1 := none) (P2 := (some ⟨w.heap.size + 1, 0, none⟩)) (P3 := none) ((Below.refl _ _).alloc (by simp) _)).2⟩
  · go_enter Try.func11, Try.ntmps11
    go_wp2
    go_ret
    exact ⟨rfl, (src_of (w := w) (P0 := none) (P1 := none) (P2 := (some ⟨w.heap.size + 1, 0, none⟩)) (P3 := (some ⟨w.heap.size + 1 + 1, 0, none⟩)) (((Below.refl _ _).alloc (by simp) _).alloc (by simp) _)).1, (fun h => absurd h (by decide)), (src_of (w := w) (P0 := none) (P1 := none) (P2 := (some ⟨w.heap.size + 1, 0, none⟩)) (P3 := (some ⟨w.heap.size + 1 + 1, 0, none⟩)) (((Below.refl _ _).alloc (by simp) _).alloc (by simp) _)).2⟩
  · go_enter Try.func11, Try.ntmps11
    go_wp2
    go_ret
    exact ⟨rfl, (src_of (w := w) (P0 := none) (P1 := (some ⟨w.heap.size + 1, 0, none⟩)) (P2 := none) (P3 := none) ((Below.refl _ _).alloc (by simp) _)).1, (fun h => absurd h (by decide)), (src_of (w := w) (P0 := none) (P1 := (some ⟨w.heap.size + 1, 0, none⟩)) (P2 := none) (P3 := none) ((Below.refl _ _).alloc (by simp) _)).2⟩
  · go_enter Try.func11, Try.ntmps11
    go_wp2
    go_ret
    exact ⟨rfl, (src_of (w := w) (P0 := none) (P1 := (some ⟨w.heap.size + 1, 0, none⟩)) (P2 := none) (P3 := (some ⟨w.heap.size + 1 + 1, 0, none⟩)) (((Below.refl _ _).alloc (by simp) _).alloc (by simp) _)).1, (fun h => absurd h (by decide)), (src_of (w := w) (P0 := none) (P1 := (some ⟨w.heap.size + 1, 0, none⟩)) (P2 := none) (P3 := (some ⟨w.heap.size + 1 + 1, 0, none⟩)) (((Below.refl _ _).alloc (by simp) _).alloc (by simp) _)).2⟩
  · go_enter Try.func11, Try.ntmps11
    go_wp2
    go_ret
    exact ⟨rfl, (src_of (w := w) (P0 := none) (P1 := (some ⟨w.heap.size + 1, 0, none⟩)) (P2 := (some ⟨w.heap.size + 1 + 1, 0, none⟩)) (P3 := none) (((Below.refl _ _).alloc (by simp) _).alloc (by simp) _)).1, (fun h => absurd h (by decide)), (src_of (w := w) (P0 := none) (P1 := (some ⟨w.heap.size + 1, 0, none⟩)) (P2 := (some ⟨w.heap.size + 1 + 1, 0, none⟩)) (P3 := none) (((Below.refl _ _).alloc (by simp) _).alloc (by simp) _)).2⟩
  · go_enter Try.func11, Try.ntmps11
    go_wp2
    go_ret
    exact ⟨rfl, (src_of (w := w) (P0 := none) (P1 := (some ⟨w.heap.size + 1, 0, none⟩)) (P2 := (some ⟨w.heap.size + 1 + 1, 0, none⟩)) (P3 := (some ⟨w.heap.size + 1 + 1 + 1, 0, none⟩)) ((((Below.refl _ _).alloc (by simp) _).alloc (by simp) _).alloc (by simp) _)).1, (fun h => absurd h (by decide)), (src_of (w := w) (P0 := none) (P1 := (some ⟨w.heap.size + 1, 0, none⟩)) (P2 := (some ⟨w.heap.size + 1 + 1, 0, none⟩)) (P3 := (some ⟨w.heap.size + 1 + 1 + 1, 0, none⟩)) ((((Below.refl _ _).alloc (by simp) _).alloc (by simp) _).alloc (by simp) _)).2⟩
  · go_enter Try.func11, Try.ntmps11
    go_wp2
    go_ret
    exact ⟨rfl, (src_of (w := w) (P0 := (some ⟨w.heap.size + 1, 0, none⟩)) (P1 := none) (P2 := none) (P3 := none) ((Below.refl _ _).alloc (by simp) _)).1, fld_of (w := w) (P1 := none) (P2 := none) (P3 := none) (Below.refl _ _), (src_of (w := w) (P0 := (some ⟨w.heap.size + 1, 0, none⟩)) (P1 := none) (P2 := none) (P3 := none) ((Below.refl _ _).alloc (by simp) _)).2⟩
  · go_enter Try.func11, Try.ntmps11
    go_wp2
    go_ret
    exact ⟨rfl, (src_of (w := w) (P0 := (some ⟨w.heap.size + 1, 0, none⟩)) (P1 := none) (P2 := none) (P3 := (some ⟨w.heap.size + 1 + 1, 0, none⟩)) (((Below.refl _ _).alloc (by simp) _).alloc (by simp) _)).1, fld_of (w := w) (P1 := none) (P2 := none) (P3 := (some ⟨w.heap.size + 1 + 1, 0, none⟩)) ((Below.refl _ _).alloc (by simp) _), (src_of (w := w) (P0 := (some ⟨w.heap.size + 1, 0, none⟩)) (P1 := none) (P2 := none) (P3 := (some ⟨w.heap.size + 1 + 1, 0, none⟩)) (((Below.refl _ _).alloc (by simp) _).alloc (by simp) _)).2⟩
  · go_enter Try.func11, Try.ntmps11
    go_wp2
    go_ret
    exact ⟨rfl, (src_of (w := w) (P0 := (some ⟨w.heap.size + 1, 0, none⟩)) (P1 := none) (P2 := (some ⟨w.heap.size + 1 + 1, 0, none⟩)) (P3 := none) (((Below.refl _ _).alloc (by simp) _).alloc (by simp) _)).1, fld_of (w := w) (P1 := none) (P2 := (some ⟨w.heap.size + 1 + 1, 0, none⟩)) (P3 := none) ((Below.refl _ _).alloc (by simp) _), (src_of (w := w) (P0 := (some ⟨w.heap.size + 1, 0, none⟩)) (P1 := none) (P2 := (some ⟨w.heap.size + 1 + 1, 0, none⟩)) (P3 := none) (((Below.refl _ _).alloc (by simp) _).alloc (by simp) _)).2⟩
  · go_enter Try.func11, Try.ntmps11
    go_wp2
    go_ret
    exact ⟨rfl, (src_of (w := w) (P0 := (some ⟨w.heap.size + 1, 0, none⟩)) (P1 := none) (P2 := (some ⟨w.heap.size + 1 + 1, 0, none⟩)) (P3 := (some ⟨w.heap.size + 1 + 1 + 1, 0, none⟩)) ((((Below.refl _ _).alloc (by simp) _).alloc (by simp) _).alloc (by simp) _)).1, fld_of (w := w) (P1 := none) (P2 := (some ⟨w.heap.size + 1 + 1, 0, none⟩)) (P3 := (some ⟨w.heap.size + 1 + 1 + 1, 0, none⟩)) (((Below.refl _ _).alloc (by simp) _).alloc (by simp) _), (src_of (w := w) (P0 := (some ⟨w.heap.size + 1, 0, none⟩)) (P1 := none) (P2 := (some ⟨w.heap.size + 1 + 1, 0, none⟩)) (P3 := (some ⟨w.heap.size + 1 + 1 + 1, 0, none⟩)) ((((Below.refl _ _).alloc (by simp) _).alloc (by simp) _).alloc (by simp) _)).2⟩
  · go_enter Try.func11, Try.ntmps11
    go_wp2
    go_ret
    exact ⟨rfl, (src_of (w := w) (P0 := (some ⟨w.heap.size + 1, 0, none⟩)) (P1 := (some ⟨w.heap.size + 1 + 1, 0, none⟩)) (P2 := none) (P3 := none) (((Below.refl _ _).alloc (by simp) _).alloc (by simp) _)).1, fld_of (w := w) (P1 := (some ⟨w.heap.size + 1 + 1, 0, none⟩)) (P2 := none) (P3 := none) ((Below.refl _ _).alloc (by simp) _), (src_of (w := w) (P0 := (some ⟨w.heap.size + 1, 0, none⟩)) (P1 := (some ⟨w.heap.size + 1 + 1, 0, none⟩)) (P2 := none) (P3 := none) (((Below.refl _ _).alloc (by simp) _).alloc (by simp) _)).2⟩
  · go_enter Try.func11, Try.ntmps11
    go_wp2
    go_ret
    exact ⟨rfl, (src_of (w := w) (P0 := (some ⟨w.heap.size + 1, 0, none⟩)) (P1 := (some ⟨w.heap.size + 1 + 1, 0, none⟩)) (P2 := none) (P3 := (some ⟨w.heap.size + 1 + 1 + 1, 0, none⟩)) ((((Below.refl _ _).alloc (by simp) _).alloc (by simp) _).alloc (by simp) _)).1, fld_of (w := w) (P1 := (some ⟨w.heap.size + 1 + 1, 0, none⟩)) (P2 := none) (P3 := (some ⟨w.heap.size + 1 + 1 + 1, 0, none⟩)) (((Below.refl _ _).alloc (by simp) _).alloc (by simp) _), (src_of (w := w) (P0 := (some ⟨w.heap.size + 1, 0, none⟩)) (P1 := (some ⟨w.heap.size + 1 + 1, 0, none⟩)) (P2 := none) (P3 := (some ⟨w.heap.size + 1 + 1 + 1, 0, none⟩)) ((((Below.refl _ _).alloc (by simp) _).alloc (by simp) _).alloc (by simp) _)).2⟩
  · go_enter Try.func11, Try.ntmps11
    go_wp2
    go_ret
    exact ⟨rfl, (src_of (w := w) (P0 := (some ⟨w.heap.size + 1, 0, none⟩)) (P1 := (some ⟨w.heap.size + 1 + 1, 0, none⟩)) (P2 := (some ⟨w.heap.size + 1 + 1 + 1, 0, none⟩)) (P3 := none) ((((Below.refl _ _).alloc (by simp) _).alloc (by simp) _).alloc (by simp) _)).1, fld_of (w := w) (P1 := (some ⟨w.heap.size + 1 + 1, 0, none⟩)) (P2 := (some ⟨w.heap.size + 1 + 1 + 1, 0, none⟩)) (P3 := none) (((Below.refl _ _).alloc (by simp) _).alloc (by simp) _), (src_of (w := w) (P0 := (some ⟨w.heap.size + 1, 0, none⟩)) (P1 := (some ⟨w.heap.size + 1 + 1, 0, none⟩)) (P2 := (some ⟨w.heap.size + 1 + 1 + 1, 0, none⟩)) (P3 := none) ((((Below.refl _ _).alloc (by simp) _).alloc (by simp) _).alloc (by simp) _)).2⟩
  · go_enter Try.func11, Try.ntmps11
    go_wp2
    go_ret
    exact ⟨rfl, (src_of (w := w) (P0 := (some ⟨w.heap.size + 1, 0, none⟩)) (P1 := (some ⟨w.heap.size + 1 + 1, 0, none⟩)) (P2 := (some ⟨w.heap.size + 1 + 1 + 1, 0, none⟩)) (P3 := (some ⟨w.heap.size + 1 + 1 + 1 + 1, 0, none⟩)) (((((Below.refl _ _).alloc (by simp) _).alloc (by simp) _).alloc (by simp) _).alloc (by simp) _)).1, fld_of (w := w) (P1 := (some ⟨w.heap.size + 1 + 1, 0, none⟩)) (P2 := (some ⟨w.heap.size + 1 + 1 + 1, 0, none⟩)) (P3 := (some ⟨w.heap.size + 1 + 1 + 1 + 1, 0, none⟩)) ((((Below.refl _ _).alloc (by simp) _).alloc (by simp) _).alloc (by simp) _), (src_of (w := w) (P0 := (some ⟨w.heap.size + 1, 0, none⟩)) (P1 := (some ⟨w.heap.size + 1 + 1, 0, none⟩)) (P2 := (some ⟨w.heap.size + 1 + 1 + 1, 0, none⟩)) (P3 := (some ⟨w.heap.size + 1 + 1 + 1 + 1, 0, none⟩)) (((((Below.refl _ _).alloc (by simp) _).alloc (by simp) _).alloc (by simp) _).alloc (by simp) _)).2⟩
end Go.Proofs.Qxb6602856a
