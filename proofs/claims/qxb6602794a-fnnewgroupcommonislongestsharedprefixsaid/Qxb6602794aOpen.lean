/- From the reading of the arguments to what the walks are told. -/
import Derived.Test.Qxb6602794aBase
import Derived.ProofKit
import Derived.ShutString
import Derived.ChangeOld
import Derived.Deep.Strs
namespace Go.Proofs.Qxb6602794a
open Go.ChangeShapes Go.WideShapes Go.ChangeAt Go.RowKit Go.Deep

theorem Try.cells9 : Try.prog.cellsOf 9 = 1 := by kernel_rfl
theorem Try.cells29 : Try.prog.cellsOf 29 = 1 := by kernel_rfl
theorem Try.own : ownKnob Try.prog.godebug = none := by kernel_rfl
theorem Try.laidOut : laidOutB Try.prog = true := by kernel_rfl

theorem addr_at {w : World} {x : Addr} {i : Nat} {v : Value} (h : w.cell? (x.add i) = some v) : w.cell? ⟨x.block, x.off + i, none⟩ = some v := by
  obtain ⟨b, o, sp⟩ := x
  by_cases e : i = 0
  · subst e
    have h' : w.cell? ⟨b, o, sp⟩ = some v := by simpa [Addr.add] using h
    have hsp : sp = none := World.cell?_spot h'
    subst hsp
    exact h'
  · simpa [Addr.add, e] using h

theorem addr_of {w : World} {x : Addr} {v : Value} (h : w.cell? (x.add 0) = some v) : x = ⟨x.block, x.off, none⟩ := by
  obtain ⟨b, o, sp⟩ := x
  have h' : w.cell? ⟨b, o, sp⟩ = some v := by simpa [Addr.add] using h
  have hsp : sp = none := World.cell?_spot h'
  subst hsp
  rfl

theorem sat_cells {H : Type} {enc : TypeId × Value → H} {w : World} {base : Nat} {held : Bool} {fuel : Nat} {v : Value} {x : DataW H × List MemPlace}
    (h : DataW.trod enc Try.prog w base (fun _ => true) held fuel 29 [v] = some x) :
    ∃ (a : Option Addr) (n c : Nat) (S : Nat → ByteArray), v = .slice a n c ∧ SAt w a n S ∧ n ≤ maxLen ∧ ∀ j, j < n → (S j).size ≤ maxLen := by
  rcases open_strs Try.underlying29 Try.underlying9 Try.cells9 h with ⟨hcs, _⟩ | ⟨a, len, cap, m, Sx, hcs, _, hl, hm, hmm, _, hc⟩
  · simp only [List.cons.injEq, and_true] at hcs
    exact ⟨none, 0, 0, fun _ => ByteArray.empty, hcs, ⟨0, 0, fun h => absurd h (Nat.lt_irrefl _), fun j h => absurd h (Nat.not_lt_zero _)⟩, Nat.zero_le _, fun j h => absurd h (Nat.not_lt_zero _)⟩
  · simp only [List.cons.injEq, and_true] at hcs
    simp only [if_true] at hmm
    refine ⟨some a, len, cap, Sx, hcs, ⟨a.block, a.off, fun h0 => ?_, fun j hj => addr_at (hc j (by omega)).1⟩, by omega, fun j hj => (hc j (by omega)).2⟩
    exact congrArg some (addr_of (hc 0 (by omega)).1)

theorem tat_cells {H : Type} {enc : TypeId × Value → H} {w : World} {base : Nat} {held : Bool} {fuel : Nat} {v : Value} {x : DataW H × List MemPlace}
    (h : DataW.trod enc Try.prog w base (fun _ => true) held fuel 22 [v] = some x) :
    ∃ (a : Option Addr) (n c : Nat) (A : Nat → Option Addr) (L C : Nat → Nat) (S : Nat → Nat → ByteArray), v = .slice a n c ∧ TAt w a n A L C S ∧ n ≤ maxLen ∧ (∀ i, i < n → L i ≤ maxLen) ∧ ∀ i, i < n → ∀ j, j < L i → (S i j).size ≤ maxLen := by
  rcases open_slice1 Try.underlying22 Try.cells29 h with ⟨hcs, _⟩ | ⟨a, len, cap, m, n, V, D, Pl, hcs, _, hl, hm, hmm, _, hc⟩
  · simp only [List.cons.injEq, and_true] at hcs
    exact ⟨none, 0, 0, fun _ => none, fun _ => 0, fun _ => 0, fun _ _ => ByteArray.empty, hcs, ⟨⟨0, 0, fun h => absurd h (Nat.lt_irrefl _), fun j h => absurd h (Nat.not_lt_zero _)⟩, fun j h => absurd h (Nat.not_lt_zero _)⟩, Nat.zero_le _,
      fun j h => absurd h (Nat.not_lt_zero _), fun j h => absurd h (Nat.not_lt_zero _)⟩
  · simp only [List.cons.injEq, and_true] at hcs
    simp only [if_true] at hmm
    have each : ∀ i, i < len → ∃ y : Option Addr × Nat × Nat × (Nat → ByteArray), V i = .slice y.1 y.2.1 y.2.2.1 ∧ SAt w y.1 y.2.1 y.2.2.2 ∧ y.2.1 ≤ maxLen ∧ ∀ j, j < y.2.1 → (y.2.2.2 j).size ≤ maxLen := fun i hi => by
      obtain ⟨a1, n1, c1, S1, e1, e2, e3, e4⟩ := sat_cells (hc i (by omega)).2
      exact ⟨(a1, n1, c1, S1), e1, e2, e3, e4⟩
    have : Inhabited (Nat → ByteArray) := ⟨fun _ => ByteArray.empty⟩
    obtain ⟨Y, hY⟩ := choose_lt each
    refine ⟨some a, len, cap, fun i => (Y i).1, fun i => (Y i).2.1, fun i => (Y i).2.2.1, fun i => (Y i).2.2.2, hcs, ⟨⟨a.block, a.off, fun h0 => ?_, fun i hi => ?_⟩, fun i hi => (hY i hi).2.1⟩, by omega, fun i hi => (hY i hi).2.2.1, fun i hi => (hY i hi).2.2.2⟩
    · exact congrArg some (addr_of (hc 0 (by omega)).1)
    · rw [addr_at (hc i (by omega)).1, (hY i hi).1]

end Go.Proofs.Qxb6602794a
