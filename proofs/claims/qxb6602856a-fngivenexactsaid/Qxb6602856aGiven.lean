/- Given: the names of the fields that the source sets. -/
import Derived.Test.Qxb6602856aBuild
import Derived.Deep.RegionWith
namespace Go.Proofs.Qxb6602856a
open Go.RowKit

def flag (a b c d : Bool) : Nat → Bool
  | 0 => a
  | 1 => b
  | 2 => c
  | _ => d

def GvPost (a b c d : Bool) (w : World) (e : Ending) (w' : World) : Prop :=
  ∃ ad cp, e = .returned (.slice ad (G nm (flag a b c d) 4).length cp) ∧ LAt w' ad (G nm (flag a b c d) 4) ∧ Below w.heap.size w w'

theorem pres_cells (w : World) (a b c d : Bool) (k : Nat) (hk : k < 4) :
    (w.alloc (.cells #[.string ⟨#[102, 105, 101, 108, 100, 82, 101, 102]⟩, .bool a, .string ⟨#[114, 101, 115, 111, 117, 114, 99, 101, 70, 105, 101, 108, 100, 82, 101, 102]⟩, .bool b,
      .string ⟨#[99, 111, 110, 102, 105, 103, 77, 97, 112, 75, 101, 121, 82, 101, 102]⟩, .bool c, .string ⟨#[115, 101, 99, 114, 101, 116, 75, 101, 121, 82, 101, 102]⟩, .bool d] 43)).drew.cell? ⟨w.heap.size, k * 2, none⟩ = some (.string (nm k)) ∧
    (w.alloc (.cells #[.string ⟨#[102, 105, 101, 108, 100, 82, 101, 102]⟩, .bool a, .string ⟨#[114, 101, 115, 111, 117, 114, 99, 101, 70, 105, 101, 108, 100, 82, 101, 102]⟩, .bool b,
      .string ⟨#[99, 111, 110, 102, 105, 103, 77, 97, 112, 75, 101, 121, 82, 101, 102]⟩, .bool c, .string ⟨#[115, 101, 99, 114, 101, 116, 75, 101, 121, 82, 101, 102]⟩, .bool d] 43)).drew.cell? ⟨w.heap.size, k * 2 + 1, none⟩ = some (.bool (flag a b c d k)) := by
  rcases (show k = 0 ∨ k = 1 ∨ k = 2 ∨ k = 3 by omega) with rfl | rfl | rfl | rfl <;> simp [nm, flag]

theorem below_new {w w1 : World} {o : Obj} (hb : Below (w.alloc o).drew.heap.size (w.alloc o).drew w1) : Below w.heap.size w w1 :=
  ((Below.refl _ _).alloc (Nat.le_refl _) o).drew.trans (hb.mono (by simp))

set_option maxHeartbeats 40000000 in
theorem given_any (B : Nat) (a b c d : Bool) (w : World) (h : SrcAt w B a b c d) :
    Calls Try.prog 12 #[.pointer (some ⟨B, 0, none⟩)] w fun e w' => GvPost a b c d w e w' := by
  obtain ⟨P0, P1, P2, P3, c0, c1, c2, c3, f0, f1, f2, f3⟩ := h
  go_enter Try.func12, Try.ntmps12
  go_wp2
  go_region_with (go_at_call 18; refine (given_names _ nm (flag a b c d) _ (pres_cells _ _ _ _ _)).mono ?_; rintro e w1 ⟨ad, cp, rfl, hL, hb⟩)
  all_goals
    go_wp2
    go_ret
    exact ⟨_, _, rfl, hL, below_new hb⟩
end Go.Proofs.Qxb6602856a
