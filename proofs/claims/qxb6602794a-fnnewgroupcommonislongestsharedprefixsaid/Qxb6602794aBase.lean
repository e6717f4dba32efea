/- What the walks are told of a list of strings and of a list of such lists, said of cells; the two functions that reckon bytes. -/
import Derived.Test.Qxb6602794aRows
import Derived.WalkKit
import Derived.WalkSpells
import Derived.WalkLawsBesides
import Derived.Deep.LoopGhost
import Derived.Deep.OwnRows
namespace Go.Proofs.Qxb6602794a
open Go.RowKit

theorem str_ne {a b : ByteArray} (h : ¬ a = b) : (a.toList == b.toList) = false := by
  rw [beq_eq_false_iff_ne]
  intro e
  rw [ByteArray.toList_eq, ByteArray.toList_eq] at e
  apply h
  cases a; cases b
  simp only [ByteArray.mk.injEq]
  exact Array.toList_inj.1 e

theorem str_eq {a b : ByteArray} (h : a = b) : (a.toList == b.toList) = true := by rw [h]; simp

theorem hmk {p : Prop} (h : p) : Hid p := h

/-- The slice value with address a and n elements holds the strings S 0 .. S (n-1). -/
def SAt (w : World) (a : Option Addr) (n : Nat) (S : Nat → ByteArray) : Prop :=
  ∃ b o, (0 < n → a = some ⟨b, o, none⟩) ∧ ∀ j, j < n → w.cell? ⟨b, o + j, none⟩ = some (.string (S j))

/-- The slice value with address a and n elements holds n lists of strings; list i has the address A i, the length L i and the strings S i. -/
def TAt (w : World) (a : Option Addr) (n : Nat) (A : Nat → Option Addr) (L C : Nat → Nat) (S : Nat → Nat → ByteArray) : Prop :=
  (∃ b o, (0 < n → a = some ⟨b, o, none⟩) ∧ ∀ i, i < n → w.cell? ⟨b, o + i, none⟩ = some (.slice (A i) (L i) (C i))) ∧ ∀ i, i < n → SAt w (A i) (L i) (S i)

set_option maxHeartbeats 400000 in
theorem list_bytes (a : Option Addr) (n c : Nat) (S : Nat → ByteArray) (w : World) (hn : n ≤ maxLen) (hS : ∀ j, j < n → (S j).size ≤ maxLen) (h : SAt w a n S) :
    Calls Try.prog 13 #[.slice a n c] w fun e w' => ∃ r : Int, e = .returned (.int .i64 r) ∧ 0 ≤ r ∧ r ≤ 2097152 ∧ w' = w := by
  obtain ⟨b, o, ha, hc⟩ := h
  unfold maxLen at hn hS
  by_cases hbig : (65536 : Int) < n
  · go_enter Try.func13, Try.ntmps13
    go_wp2
    go_ret
    exact ⟨2097152, rfl, by omega, by omega, rfl⟩
  · go_enter Try.func13, Try.ntmps13
    go_wp2
    go_loopg [3, 4] n (fun g s i wr => wr = w ∧ ∃ (k : Nat) (m : Int), g = n - k ∧ k ≤ n ∧ i = .int .i64 k ∧ s = .int .i64 m ∧ 0 ≤ m ∧ m ≤ 1048576)
    case atStart => exact ⟨rfl, 0, _, rfl, Nat.zero_le _, rfl, rfl, by omega, by omega⟩
    case round =>
      obtain ⟨rfl, k, m, rfl, hk, rfl, rfl, hm0, hm1⟩ := hrel
      by_cases hlt : k < n
      · obtain rfl := ha (by omega)
        have hz : (k : Int) < n := by omega
        have hck := hc k hlt
        have hsk := hS k hlt
        clear hc hS ha
        go_wp2
        · go_ret
          exact ⟨_, rfl, by omega, by omega, rfl⟩
        · go_ret
          exact ⟨_, rfl, by omega, by omega, rfl⟩
        · go_roundg (n - (k + 1))
          case measure => omega
          case rel => exact ⟨rfl, k + 1, _, rfl, by omega, by go_num, rfl, by omega, by omega⟩
      · have hz : ¬ (k : Int) < n := by omega
        go_wp2
        go_ret
        exact ⟨m, rfl, hm0, by omega, rfl⟩

set_option maxHeartbeats 400000 in
theorem tags_bytes (a : Option Addr) (n c : Nat) (A : Nat → Option Addr) (L C : Nat → Nat) (S : Nat → Nat → ByteArray) (w : World) (hn : n ≤ maxLen) (hL : ∀ i, i < n → L i ≤ maxLen)
    (hS : ∀ i, i < n → ∀ j, j < L i → (S i j).size ≤ maxLen) (h : TAt w a n A L C S) :
    Calls Try.prog 7 #[.slice a n c] w fun e w' => ∃ r : Int, e = .returned (.int .i64 r) ∧ 0 ≤ r ∧ r ≤ 2097152 ∧ w' = w := by
  obtain ⟨⟨b, o, ha, hc⟩, hs⟩ := h
  unfold maxLen at hn
  by_cases hbig : (65536 : Int) < n
  · go_enter Try.func7, Try.ntmps7
    go_wp2
    go_ret
    exact ⟨2097152, rfl, by omega, by omega, rfl⟩
  · go_enter Try.func7, Try.ntmps7
    go_wp2
    go_loopg [3, 4] n (fun g s i wr => wr = w ∧ ∃ (k : Nat) (m : Int), g = n - k ∧ k ≤ n ∧ i = .int .i64 k ∧ s = .int .i64 m ∧ 0 ≤ m ∧ m ≤ 2097152)
    case atStart => exact ⟨rfl, 0, _, rfl, Nat.zero_le _, rfl, rfl, by omega, by omega⟩
    case round =>
      obtain ⟨rfl, k, m, rfl, hk, rfl, rfl, hm0, hm1⟩ := hrel
      by_cases hlt : k < n
      · obtain rfl := ha (by omega)
        have hz : (k : Int) < n := by omega
        have hck := hc k hlt
        have con := fun cc => list_bytes (A k) (L k) cc (S k) wr (hL k hlt) (hS k hlt) (hs k hlt)
        have CON : Hid (∀ cc, Calls Try.prog 13 #[.slice (A k) (L k) cc] wr fun e w' => ∃ r : Int, e = .returned (.int .i64 r) ∧ 0 ≤ r ∧ r ≤ 2097152 ∧ w' = wr) := con
        clear hc hS ha hs hL con
        go_wp2_with fail
        refine (CON.out _).mono ?_
        rintro e w' ⟨r, rfl, hr0, hr1, rfl⟩
        clear CON
        go_wp2
        · go_ret
          exact ⟨_, rfl, by omega, by omega, rfl⟩
        · go_roundg (n - (k + 1))
          case measure => omega
          case rel => exact ⟨rfl, k + 1, _, rfl, by omega, by go_num, rfl, by omega, by omega⟩
      · have hz : ¬ (k : Int) < n := by omega
        go_wp2
        go_ret
        exact ⟨m, rfl, hm0, by omega, rfl⟩
end Go.Proofs.Qxb6602794a
