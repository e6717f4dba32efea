/- From the reading of the arguments to what the walks are told. -/
import Derived.Test.Qxb6602837aBase
import Derived.ProofKit
import Derived.ChangeOld
import Derived.Deep.Slices
namespace Go.Proofs.Qxb6602837a
open Go.ChangeShapes Go.WideShapes Go.ChangeAt Go.RowKit Go.Deep

theorem Try.cells23 : Try.prog.cellsOf 23 = 1 := by kernel_rfl
theorem Try.own : ownKnob Try.prog.godebug = none := by kernel_rfl
theorem Try.laidOut : laidOutB Try.prog = true := by kernel_rfl

theorem addr_at {w : World} {x : Addr} {i : Nat} {v : Value} (h : w.cell? (x.add i) = some v) : w.cell? ⟨x.block, x.off + i, none⟩ = some v := by
  obtain ⟨b, o, sp⟩ := x
  by_cases e : i = 0
  · subst e
    have h' : w.cell? ⟨b, o, sp⟩ = some v := by simpa [Addr.add] using h
    have hsp : sp = none := World.cell?_spot h'
    subst hsp
    exact h'
  · simpa [Addr.add, e] using h

theorem addr_of {w : World} {x : Addr} {v : Value} (h : w.cell? (x.add 0) = some v) : x = ⟨x.block, x.off, none⟩ := by
  obtain ⟨b, o, sp⟩ := x
  have h' : w.cell? ⟨b, o, sp⟩ = some v := by simpa [Addr.add] using h
  have hsp : sp = none := World.cell?_spot h'
  subst hsp
  rfl

theorem trod_float {H : Type} {enc : TypeId × Value → H} {P : Program} {w : World} {base : Nat} {spare : Nat → Bool} {held : Bool} {fuel : Nat} {t : TypeId} {cs : List Value} {x : DataW H × List MemPlace} {k : FloatKind}
    (ht : P.underlying t = some (.float k)) (h : DataW.trod enc P w base spare held fuel t cs = some x) : ∃ b, cs = [.float k b] ∧ (Lit.float k b).wf = true := by
  cases fuel with
  | zero => simp [DataW.trod] at h
  | succ n =>
    unfold DataW.trod at h
    rw [ht] at h
    split at h <;> simp_all

theorem fat_cells {H : Type} {enc : TypeId × Value → H} {w : World} {base : Nat} {held : Bool} {fuel : Nat} {v : Value} {x : DataW H × List MemPlace}
    (h : DataW.trod enc Try.prog w base (fun _ => true) held fuel 22 [v] = some x) :
    ∃ (a : Option Addr) (n c : Nat) (X : Nat → Nat), v = .slice a n c ∧ FAt w a n X ∧ n ≤ maxLen ∧ ∀ i, i < n → X i < 2 ^ 64 := by
  rcases open_slice1 Try.underlying22 Try.cells23 h with ⟨hcs, _⟩ | ⟨a, len, cap, m, n, V, D, Pl, hcs, _, hl, hm, hmm, _, hc⟩
  · simp only [List.cons.injEq, and_true] at hcs
    exact ⟨none, 0, 0, fun _ => 0, hcs, ⟨0, 0, fun h => absurd h (Nat.lt_irrefl _), fun j h => absurd h (Nat.not_lt_zero _)⟩, Nat.zero_le _, fun j h => absurd h (Nat.not_lt_zero _)⟩
  · simp only [List.cons.injEq, and_true] at hcs
    simp only [if_true] at hmm
    have each : ∀ i, i < len → ∃ b : Nat, V i = .float .f64 b ∧ b < 2 ^ 64 := fun i hi => by
      obtain ⟨b, e1, e2⟩ := trod_float Try.underlying23 (hc i (by omega)).2
      simp only [List.cons.injEq, and_true] at e1
      exact ⟨b, e1, by simpa [Lit.wf] using e2⟩
    obtain ⟨X, hX⟩ := choose_lt each
    refine ⟨some a, len, cap, X, hcs, ⟨a.block, a.off, fun h0 => ?_, fun i hi => ?_⟩, by omega, fun i hi => (hX i hi).2⟩
    · exact congrArg some (addr_of (hc 0 (by omega)).1)
    · rw [addr_at (hc i (by omega)).1, (hX i hi).1]

end Go.Proofs.Qxb6602837a
