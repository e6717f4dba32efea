/- givenNames: the names of the fields that are given, in order. -/
import Derived.Test.Qxb6602856aRows
import Derived.WalkKit
import Derived.WalkSpells
import Derived.WalkLawsBesides
import Derived.Deep.LoopGhost
import Derived.Deep.OwnRows
import Derived.Deep.QuietTactic
import Derived.BigQuiet
namespace Go.Proofs.Qxb6602856a
open Go.RowKit

theorem Try.info9 : (Try.prog.info? 9).map (fun i => (i.zero, i.size, i.bytes)) = some (some (.string ⟨#[]⟩), 1, 16) := by kernel_rfl

/-- Of the first k fields those that are given. -/
def G (s : Nat → ByteArray) (b : Nat → Bool) : Nat → List ByteArray
  | 0 => []
  | k + 1 => if b k then G s b k ++ [s k] else G s b k

theorem G_hit {s : Nat → ByteArray} {b : Nat → Bool} {k : Nat} (h : b k = true) : G s b (k + 1) = G s b k ++ [s k] := by simp [G, h]
theorem G_miss {s : Nat → ByteArray} {b : Nat → Bool} {k : Nat} (h : b k = false) : G s b (k + 1) = G s b k := by simp [G, h]
theorem G_len (s : Nat → ByteArray) (b : Nat → Bool) (k : Nat) : (G s b k).length ≤ k := by
  induction k with
  | zero => simp [G]
  | succ k ih =>
    cases h : b k
    · rw [G_miss h]; omega
    · rw [G_hit h]; simp; omega

/-- The slice value with address a holds the strings l; it is nil just where there is none. -/
def LAt (w : World) (a : Option Addr) (l : List ByteArray) : Prop :=
  (l = [] → a = none) ∧ (∀ j (h : j < l.length), ∃ g, a = some ⟨g, 0, none⟩ ∧ w.cell? ⟨g, j, none⟩ = some (.string l[j]))

theorem lat_below {w w' : World} {a : Option Addr} {l : List ByteArray} (h : LAt w a l) (hb : Below w.heap.size w w') : LAt w' a l :=
  ⟨h.1, fun j hj => by
    obtain ⟨g, hg, hc⟩ := h.2 j hj
    exact ⟨g, hg, by rw [hb.cell (p := ⟨g, j, none⟩) (World.block_lt_of_cell? _ _ hc)]; exact hc⟩⟩

theorem lat_of_own {w : World} {base : Nat} {v : Value} {l : List ByteArray} (h : w.ownsRow base 9 1 v l.length (l.map Value.string)) (hn : l = [] → v = .slice none 0 0) : ∃ a c, v = .slice a l.length c ∧ LAt w a l := by
  by_cases e : l = []
  · refine ⟨none, 0, by rw [hn e, e]; rfl, fun _ => rfl, fun j hj => ?_⟩
    rw [e] at hj; exact absurd hj (Nat.not_lt_zero _)
  · rcases h.2 with ⟨_, h0⟩ | ⟨g, cap, cur, rfl, hb, _⟩
    · exact absurd (List.eq_nil_of_length_eq_zero h0) e
    · refine ⟨some ⟨g, 0, none⟩, cap, rfl, fun h => absurd h e, fun j hj => ⟨g, rfl, ?_⟩⟩
      rw [h.cellAt j (by omega), List.getElem?_map, List.getElem?_eq_getElem hj]; rfl

structure Gat (w wr : World) (s : Nat → ByteArray) (b : Nat → Bool) (k : Nat) (v : Value) : Prop where
  own : wr.ownsRow w.heap.size 9 1 v (G s b k).length ((G s b k).map Value.string)
  nil : G s b k = [] → v = .slice none 0 0
  below : Below w.heap.size w wr

theorem gat_miss {w wr : World} {s : Nat → ByteArray} {b : Nat → Bool} {k : Nat} {v : Value} (h : Gat w wr s b k v) (hb : b k = false) (o : Obj) : Gat w (wr.alloc o) s b (k + 1) v :=
  ⟨by rw [G_miss hb]; exact h.own.alloc o, by rw [G_miss hb]; exact h.nil, h.below.alloc h.below.size o⟩

theorem gat_hit {w wr w1 : World} {s : Nat → ByteArray} {b : Nat → Bool} {k : Nat} {v v' : Value} (h : Gat w wr s b k v) (hb : b k = true) (o o2 : Obj)
    (hown : w1.ownsRow w.heap.size 9 1 v' ((G s b k).length + 1) ((G s b k).map Value.string ++ [.string (s k)])) (hg : ((wr.alloc o).alloc o2).grownBy w1 v.ownBlock) : Gat w w1 s b (k + 1) v' := by
  refine ⟨by rw [G_hit hb]; simpa using hown, fun e => ?_, ?_⟩
  · rw [G_hit hb] at e; simp at e
  · have h1 := (h.below.alloc h.below.size o).alloc (by have := h.below.size; simp; omega) o2
    refine h1.grown hg (by have := h.below.size; simp; omega) (fun j hj => (h.own.lt j hj).1)

def GnPost (s : Nat → ByteArray) (b : Nat → Bool) (w : World) (e : Ending) (w' : World) : Prop :=
  ∃ a c, e = .returned (.slice a (G s b 4).length c) ∧ LAt w' a (G s b 4) ∧ Below w.heap.size w w'

set_option maxHeartbeats 1000000 in
theorem given_names (B : Nat) (s : Nat → ByteArray) (b : Nat → Bool) (w : World) (hf : ∀ k, k < 4 → w.cell? ⟨B, k * 2, none⟩ = some (.string (s k)) ∧ w.cell? ⟨B, k * 2 + 1, none⟩ = some (.bool (b k))) :
    Calls Try.prog 18 #[.slice (some ⟨B, 0, none⟩) 4 4] w fun e w' => GnPost s b w e w' := by
  obtain ⟨i0, hi, hz0, hz1, hz2⟩ := info_parts Try.info9
  go_enter Try.func18, Try.ntmps18
  go_wp2
  go_loopg [3, 8] 4 (fun g v kv wr => ∃ k : Nat, g = 4 - k ∧ k ≤ 4 ∧ kv = .int .i64 k ∧ Gat w wr s b k v)
  case atStart => exact ⟨0, rfl, Nat.zero_le _, rfl, World.ownsRow_nil _ _ _ _, fun _ => rfl, Below.refl _ _⟩
  case round =>
    obtain ⟨k, rfl, hk, rfl, hG⟩ := hrel
    by_cases hlt : k < 4
    · have hz : (k : Int) < 4 := by omega
      obtain ⟨c0, c1⟩ := hf k hlt
      have hB : B < w.heap.size := World.block_lt_of_cell? _ _ c0
      have d0 : wr.cell? ⟨B, k * 2, none⟩ = some (.string (s k)) := by rw [hG.below.cell (p := ⟨B, k * 2, none⟩) hB]; exact c0
      have d1 : wr.cell? ⟨B, k * 2 + 1, none⟩ = some (.bool (b k)) := by rw [hG.below.cell (p := ⟨B, k * 2 + 1, none⟩) hB]; exact c1
      have hsz := hG.below.size
      clear hf c0 c1
      cases hb : b k
      · rw [hb] at d1
        have hG' := gat_miss hG hb (.cells #[.string (s k), .bool false] 43)
        clear hG
        go_wp2
        go_roundg (4 - (k + 1))
        case measure => omega
        case rel => exact ⟨k + 1, rfl, by omega, by go_num, hG'⟩
      · rw [hb] at d1
        have hown := hG.own
        have hlen := G_len s b k
        go_wp2_with (at_builtin; refine wpList_append_own _ rfl _ _ 27 rfl w.heap.size 9 i0 (.string ⟨#[]⟩) 1 16 Try.underlying27 hi hz0 hz1 hz2 rfl (by decide) _ _ _ rfl ((hown.alloc _).alloc _) ⟨wr.heap.size + 1, 0, none⟩ 1 1 [.string (s k)] rfl rfl ?c1 ?c2 ?c3 ?c4 ?c5 ?_)
        case c1 =>
          intro j u hj
          match j, hj with
          | 0, hj => simp at hj; subst hj; simp [Addr.add]
        case c2 => intro u hu; simp at hu; subst hu; rfl
        case c3 => unfold maxLen; omega
        case c4 => omega
        case c5 => simp; omega
        · intro v' w1 hown' hgrow _
          have hG' := gat_hit hG hb _ _ hown' hgrow
          clear hown' hgrow hG hown d0 d1 hlen
          go_wp2
          go_roundg (4 - (k + 1))
          case measure => omega
          case rel => exact ⟨k + 1, rfl, by omega, by go_num, hG'⟩
    · have hz : ¬ (k : Int) < 4 := by omega
      have hk4 : k = 4 := by omega
      rw [hk4] at hG
      obtain ⟨a, c, rfl, hL⟩ := lat_of_own hG.own hG.nil
      have hbel := hG.below
      clear hG hk4 hf
      go_wp2
      go_ret
      exact ⟨a, c, rfl, hL, hbel⟩
end Go.Proofs.Qxb6602856a
