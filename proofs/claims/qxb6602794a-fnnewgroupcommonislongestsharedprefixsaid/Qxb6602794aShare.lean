/- zzSharePrefixB1, and the law on the longest shared beginning: the walks. -/
import Derived.Test.Qxb6602794aBytes
import Derived.Test.Qxb6602794aGroup
import Derived.Test.Qxb6602794aMore
namespace Go.Proofs.Qxb6602794a
open Go.RowKit

def ShPost (n : Nat) (L : Nat → Nat) (S : Nat → Nat → ByteArray) (k : Nat) (w : World) (e : Ending) (w' : World) : Prop :=
  ∃ (β : Bool) (q : Nat), e = .returned (.bool β) ∧ (β = true ↔ Sh n L S k) ∧ w' = w.drewN q

theorem sh_no {n : Nat} {L : Nat → Nat} {S : Nat → Nat → ByteArray} {k : Nat} {w : World} {e : Ending} {w' : World} (q : Nat) (he : e = .returned (.bool false)) (h : ¬ Sh n L S k) (hw : w' = w.drewN q) : ShPost n L S k w e w' :=
  ⟨false, q, he, by simp [h], hw⟩
theorem sh_yes {n : Nat} {L : Nat → Nat} {S : Nat → Nat → ByteArray} {k : Nat} {w : World} {e : Ending} {w' : World} (q : Nat) (he : e = .returned (.bool true)) (h : Sh n L S k) (hw : w' = w.drewN q) : ShPost n L S k w e w' :=
  ⟨true, q, he, by simp [h], hw⟩

set_option maxHeartbeats 1000000 in
theorem share_any (a : Option Addr) (n c k : Nat) (A : Nat → Option Addr) (L C : Nat → Nat) (S : Nat → Nat → ByteArray) (w : World) (hn : n ≤ maxLen) (hL : ∀ i, i < n → L i ≤ maxLen) (h : TAt w a n A L C S) :
    Calls Try.prog 10 #[.slice a n c, .int .i64 k] w fun e w' => ShPost n L S k w e w' := by
  obtain ⟨⟨b, o, ha, hc⟩, hs⟩ := h
  unfold maxLen at hn hL
  go_enter Try.func10, Try.ntmps10
  go_wp2
  go_loopg [5] n (fun g i wx => ∃ m q : Nat, wx = w.drewN q ∧ g = n - m ∧ m ≤ n ∧ i = .int .i64 m ∧ Hid (Sh m L S k))
  case atStart => exact ⟨0, 0, rfl, rfl, Nat.zero_le _, rfl, fun i hi => absurd hi (Nat.not_lt_zero _)⟩
  case round =>
    obtain ⟨m, q, rfl, rfl, hm, rfl, hH⟩ := hrel
    by_cases hlt : m < n
    · obtain rfl := ha (by omega)
      have hz : (m : Int) < n := by omega
      have hck := hc m hlt
      have hc0 : w.cell? ⟨b, o, none⟩ = some (.slice (A 0) (L 0) (C 0)) := hc 0 (by omega)
      have hLm := hL m hlt
      have hL0 := hL 0 (by omega)
      obtain ⟨b0, o0, ha0, hs0⟩ := hs 0 (by omega)
      obtain ⟨b1, o1, ha1, hs1⟩ := hs m hlt
      clear hc hs ha hL
      by_cases hsh : L m < k
      · have hshz : (L m : Int) < k := by omega
        go_wp2
        go_ret
        exact sh_no _ rfl (fun h => by have := (h m hlt).1; omega) rfl
      · have hshz : ¬ (L m : Int) < k := by omega
        have hk0 : k ≤ L 0 := by
          by_cases e : m = 0
          · subst e; omega
          · exact (hH.out 0 (by omega)).1
        go_wp2
        go_loopg [6] k (fun g i wx => ∃ j q' : Nat, wx = w.drewN q' ∧ g = k - j ∧ j ≤ k ∧ i = .int .i64 j ∧ Hid (∀ i, i < j → S m i = S 0 i))
        case atStart => exact ⟨0, q, rfl, rfl, Nat.zero_le _, rfl, fun i hi => absurd hi (Nat.not_lt_zero _)⟩
        case round =>
          obtain ⟨j, q', rfl, rfl, hj, rfl, hJ⟩ := hrel
          by_cases hjk : j < k
          · have hjz : (j : Int) < k := by omega
            have A0 := ha0 (by omega)
            have A1 := ha1 (by omega)
            have s0 := hs0 j (by omega)
            have s1 := hs1 j (by omega)
            have b1z : (j : Int) < L m := by omega
            have b0z : (j : Int) < L 0 := by omega
            clear hs0 hs1 ha0 ha1
            by_cases t3 : S m j = S 0 j
            · have t3b := str_eq t3
              have T3 : Hid (S m j = S 0 j) := t3
              clear t3
              go_wp2_with fail
              go_quiet (fail)
              go_wp2
              go_roundg (k - (j + 1))
              case measure => omega
              case rel => exact ⟨j + 1, _, rfl, rfl, by omega, by go_num, fun i hi => by rcases Nat.lt_succ_iff_lt_or_eq.1 hi with h | h; exact hJ i h; subst h; exact T3.out⟩
            · have t3b := str_ne t3
              go_wp2_with fail
              go_quiet (fail)
              go_wp2
              go_ret
              exact sh_no _ rfl (fun h => t3 ((h m hlt).2 j hjk)) (World.drewN_drewN ..)
          · have hjz : ¬ (j : Int) < k := by omega
            clear hs0 hs1 ha0 ha1
            go_wp2
            go_roundg (n - (m + 1))
            case measure => omega
            case rel => exact ⟨m + 1, _, rfl, rfl, by omega, by go_num, fun i hi => by
              rcases Nat.lt_succ_iff_lt_or_eq.1 hi with h | h
              · exact hH i h
              · subst h; exact ⟨by omega, fun q hq => hJ q (by omega)⟩⟩
    · have hz : ¬ (m : Int) < n := by omega
      clear hc hs ha hL
      go_wp2
      go_ret
      exact sh_yes _ rfl (by rw [show n = m by omega]; exact hH.out) rfl

def Yes2 (w : World) (e : Ending) (w' : World) : Prop := e = .returned (.bool true) ∧ Below w.heap.size w w'

set_option maxHeartbeats 1000000 in
theorem longest_walk (s : ByteArray) (a : Option Addr) (n c : Nat) (mt : Bool) (A : Nat → Option Addr) (L C : Nat → Nat) (S : Nat → Nat → ByteArray) (w : World)
    (hb : s.size ≤ maxLen) (hn : n ≤ maxLen) (hL : ∀ i, i < n → L i ≤ maxLen) (hS : ∀ i, i < n → ∀ j, j < L i → (S i j).size ≤ maxLen) (h : TAt w a n A L C S) :
    Calls Try.prog 3 #[.string s, .slice a n c, .bool mt] w fun e w' => Yes2 w e w' := by
  go_enter Try.func3, Try.ntmps3
  go_wp2_with fail
  refine (zz_longest s a n c mt A L C S w hb hn hL hS h).mono ?_
  rintro e w1 ⟨β, rfl, hβ, rfl⟩
  cases β
  · go_wp2
    go_ret
    exact ⟨rfl, Below.refl _ _⟩
  obtain ⟨k1, k2, k3, k4⟩ := hβ rfl
  clear hβ k4
  have k1z : ¬ (1048576 : Int) < s.size := by omega
  go_wp2_with fail
  refine (tags_bytes a n c A L C S _ hn hL hS h).mono ?_
  rintro e w2 ⟨r, rfl, hr0, hr1, rfl⟩
  clear hS hb hn hL
  by_cases hsum : (1048576 : Int) < s.size + r
  · go_wp2
    go_ret
    exact ⟨rfl, Below.refl _ _⟩
  go_wp2_with fail
  refine (clone_tags a n c A L C S _ k2 k3 h).mono ?_
  rintro e w3 ⟨a', A', C', rfl, hT, hb3⟩
  clear h
  go_wp2_with fail
  refine (zz_group s a' n mt A' L C' S w3 (by unfold maxLen; omega) (fun i hi => by have := k3 i hi; unfold maxLen; omega) hT).mono ?_
  rintro e w4 ⟨c0, rfl, hC0, hb4⟩
  have hT4 := tat_below hT hb4
  have hb5 := hb3.trans (hb4.mono hb3.size)
  have HC0 : Hid (Com n L S c0) := hC0
  clear hT hb3 hb4 hC0
  by_cases hn0 : n = 0
  · subst hn0
    have hc00 : c0 = 0 := by
      rcases HC0.out with ⟨_, e⟩ | ⟨e, _⟩
      · exact e
      · omega
    subst hc00
    go_wp2
    go_ret
    exact ⟨rfl, hb5⟩
  · have hnz : ((n : Int) == 0) = false := by simp; omega
    have hcl := com_le HC0.out (show 0 < n by omega)
    have k30 := k3 0 (by omega)
    obtain ⟨g1, g2⟩ := greatest (by omega) HC0.out
    go_wp2_with fail
    refine (share_any a' n n c0 A' L C' S w4 (by unfold maxLen; omega) (fun i hi => by have := k3 i hi; unfold maxLen; omega) hT4).mono ?_
    rintro e w5 ⟨β, q, rfl, hβ, rfl⟩
    have hβ1 : β = true := hβ.2 g1
    subst hβ1
    clear hβ
    have hT5 := tat_below hT4 (below_drewN (Below.refl _ _) q)
    clear hT4
    go_wp2_with fail
    rw [show ((c0 : Int) + 1) = ((c0 + 1 : Nat) : Int) by omega]
    refine (share_any a' n n (c0 + 1) A' L C' S _ (by unfold maxLen; omega) (fun i hi => by have := k3 i hi; unfold maxLen; omega) hT5).mono ?_
    rintro e w6 ⟨β, q2, rfl, hβ, rfl⟩
    have hβ1 : β = false := by
      cases β
      · rfl
      · exact absurd (hβ.1 rfl) g2
    subst hβ1
    clear hβ
    go_wp2
    go_ret
    exact ⟨rfl, below_drewN hb5 _⟩
end Go.Proofs.Qxb6602794a
