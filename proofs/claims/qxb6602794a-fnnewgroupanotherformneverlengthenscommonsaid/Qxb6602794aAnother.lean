/- The law on one form more: its walk. -/
import Derived.Test.Qxb6602794aBytes
import Derived.Test.Qxb6602794aGroup
import Derived.Test.Qxb6602794aMore
namespace Go.Proofs.Qxb6602794a
open Go.RowKit

def Yes (w : World) (e : Ending) (w' : World) : Prop := e = .returned (.bool true) ∧ Below w.heap.size w w'

set_option maxHeartbeats 1000000 in
theorem another_walk (s : ByteArray) (a : Option Addr) (n c : Nat) (ea : Option Addr) (en ec : Nat) (mt : Bool) (A : Nat → Option Addr) (L C : Nat → Nat) (S : Nat → Nat → ByteArray) (E : Nat → ByteArray) (w : World)
    (hb : s.size ≤ maxLen) (hn : n ≤ maxLen) (hL : ∀ i, i < n → L i ≤ maxLen) (hS : ∀ i, i < n → ∀ j, j < L i → (S i j).size ≤ maxLen) (h : TAt w a n A L C S)
    (hen : en ≤ maxLen) (hE : ∀ j, j < en → (E j).size ≤ maxLen) (hx : SAt w ea en E) :
    Calls Try.prog 5 #[.string s, .slice a n c, .slice ea en ec, .bool mt] w fun e w' => Yes w e w' := by
  go_enter Try.func5, Try.ntmps5
  go_wp2_with fail
  refine (zz_another s a n c ea en ec mt A L C S E w hb hn hL hS h hen hE hx).mono ?_
  rintro e w1 ⟨β, rfl, hβ, rfl⟩
  cases β
  · go_wp2
    go_ret
    exact ⟨rfl, Below.refl _ _⟩
  obtain ⟨k1, k2, k3, k4⟩ := hβ rfl
  clear hβ
  have k1z : ¬ (1048576 : Int) < s.size := by omega
  go_wp2_with fail
  refine (tags_bytes a n c A L C S _ hn hL hS h).mono ?_
  rintro e w2 ⟨r, rfl, hr0, hr1, rfl⟩
  go_wp2_with fail
  refine (list_bytes ea en ec E _ hen hE hx).mono ?_
  rintro e w2 ⟨r2, rfl, hq0, hq1, rfl⟩
  clear hS hE hb hn hL hen
  by_cases hsum : (1048576 : Int) < s.size + r + r2
  · go_wp2
    go_ret
    exact ⟨rfl, Below.refl _ _⟩
  go_wp2_with fail
  refine (clone_tags a n c A L C S _ k2 k3 h).mono ?_
  rintro e w3 ⟨a', A', C', rfl, hT, hb3⟩
  have hx3 := sat_below hx hb3
  clear h hx
  go_wp2_with fail
  refine (clone_list ea en ec E w3 k4 hx3).mono ?_
  rintro e w4 ⟨ea', ec', rfl, hrx, hb4⟩
  have hX := sat_of_post hrx
  have hT4 := tat_below hT hb4
  have hbb := hb3.trans (hb4.mono hb3.size)
  clear hx3 hrx hT hb4 hb3
  go_wp2_with fail
  refine (zz_group s a' n mt A' L C' S w4 (by unfold maxLen; omega) (fun i hi => by have := k3 i hi; unfold maxLen; omega) hT4).mono ?_
  rintro e w5 ⟨c0, rfl, hC0, hb5⟩
  have hT5 := tat_below hT4 hb5
  have hX5 := sat_below hX hb5
  have hb6 := hbb.trans (hb5.mono hbb.size)
  have HC0 : Hid (Com n L S c0) := hC0
  clear hT4 hX hb5 hbb hC0
  have hmk := run_make_row' (P := Try.prog) 22 29 (.slice none 0 0) 24 Try.underlying22 Try.info29 rfl .i64 .i64 (n + 1) (by omega) (by omega)
  rw [show ((n + 1 : Nat) : Int) = (n : Int) + 1 by omega] at hmk
  go_wp2_with fail
  clear hmk
  obtain ⟨⟨b, o, ha, hc⟩, hs⟩ := hT5
  go_loopg [13] n (fun g i wr => ∃ k : Nat, g = n - k ∧ k ≤ n ∧ i = .int .i64 k ∧ More w5 wr n k A' L C')
  case atStart => exact ⟨0, rfl, Nat.zero_le _, rfl, more_start w5 n A' L C'⟩
  case round =>
    obtain ⟨k, rfl, hk, rfl, hM⟩ := hrel
    by_cases hlt : k < n
    · obtain rfl := ha (by omega)
      have hz : (k : Int) < n := by omega
      have hck : wr.cell? ⟨b, o + k, none⟩ = some (.slice (A' k) (L k) (C' k)) := by
        rw [hM.below.cell (p := ⟨b, o + k, none⟩) (World.block_lt_of_cell? _ _ (hc k hlt))]; exact hc k hlt
      have hst := hM.row.cell (i := k) (by omega)
      have hfr := hM.row.frozen k
      have hM' := more_step hM
      clear hc ha hM hs hX5 k3
      go_wp2
      go_roundg (n - (k + 1))
      case measure => omega
      case rel => exact ⟨k + 1, rfl, by omega, by go_num, hM'⟩
    · have hz : ¬ (k : Int) < n := by omega
      have hkn : k = n := by omega
      rw [hkn] at hM
      have hst := hM.row.cell (i := n) (by omega)
      have hfr := hM.row.frozen n
      have hF := full_of_more hM ea' en ec'
      have hTM := full_tat hF hs hX5
      clear hM hkn
      go_wp2_with fail
      clear hst hfr
      refine (zz_group s _ (n + 1) mt _ _ _ _ _ (by unfold maxLen; omega) (ext_le (fun i hi => by have := k3 i hi; unfold maxLen; omega) (by unfold maxLen; omega)) hTM).mono ?_
      rintro e w6 ⟨c1, rfl, hC1, hb7⟩
      have hF6 := full_later hF hb7
      clear hF hTM hb7
      have hX6 := sat_below hX5 hF6.below
      by_cases hn0 : n = 0
      · subst hn0
        obtain ⟨rfl, rfl⟩ := alone HC0.out hC1
        go_wp2
        go_ret
        exact ⟨rfl, hb6.trans (hF6.below.mono hb6.size)⟩
      · obtain rfl := ha (by omega)
        obtain ⟨hle, hiff⟩ := another (by omega) HC0.out hC1
        have HIFF : Hid (c1 = c0 ↔ c0 ≤ en ∧ ∀ j, j < c0 → E j = S 0 j) := hiff
        have hcl := com_le HC0.out (show 0 < n by omega)
        have k30 := k3 0 (by omega)
        have hz0 : ((n : Int) == 0) = false := by simp; omega
        have hz1 : ¬ (c0 : Int) < c1 := by omega
        have c0c : w6.cell? ⟨b, o, none⟩ = some (.slice (A' 0) (L 0) (C' 0)) := by
          rw [hF6.below.cell (p := ⟨b, o, none⟩) (World.block_lt_of_cell? _ _ (hc 0 (by omega)))]; exact hc 0 (by omega)
        obtain ⟨b0, o0, ha0, hs0⟩ := sat_below (hs 0 (by omega)) hF6.below
        obtain ⟨xb, xo, hxa, hxc⟩ := hX6
        clear hiff hC1
        go_wp2
        go_loopg [17, 18] c0 (fun g sv jv wx => ∃ (sh : Bool) (j q : Nat), wx = w6.drewN q ∧ g = c0 - j ∧ j ≤ c0 ∧ sv = .bool sh ∧ jv = .int .i64 j ∧
            Hid ((sh = true → c0 ≤ en ∧ ∀ i, i < j → E i = S 0 i) ∧ (sh = false → ¬ (c0 ≤ en ∧ ∀ i, i < c0 → E i = S 0 i))))
        case atStart => exact ⟨decide (c0 ≤ en), 0, 0, rfl, rfl, Nat.zero_le _, rfl, rfl, fun h => ⟨by simpa using h, fun i hi => absurd hi (Nat.not_lt_zero _)⟩, fun h hh => by simp at h; omega⟩
        case round =>
          obtain ⟨sh, j, q, rfl, rfl, hj, rfl, rfl, hH⟩ := hrel
          by_cases hgo : sh = true ∧ j < c0
          · obtain ⟨rfl, hjc⟩ := hgo
            obtain ⟨hcen, hpre⟩ := hH.1 rfl
            have PRE : Hid (∀ i, i < j → E i = S 0 i) := hpre
            have hjz : (j : Int) < c0 := by omega
            have A0 := ha0 (by omega)
            obtain rfl := hxa (by omega)
            have s0 := hs0 j (by omega)
            have s1 := hxc j (by omega)
            clear hs0 hxc ha0 hxa hpre hH hc hs hX5 k3 hF6
            by_cases t3 : E j = S 0 j
            · have t3b := str_eq t3
              have T3 : Hid (E j = S 0 j) := t3
              clear t3
              go_wp2_with fail
              go_quiet (fail)
              go_wp2
              go_roundg (c0 - (j + 1))
              case measure => omega
              case rel => exact ⟨true, j + 1, _, rfl, rfl, by omega, rfl, by go_num, fun _ => ⟨hcen, fun i hi => by rcases Nat.lt_succ_iff_lt_or_eq.1 hi with h | h; exact PRE i h; subst h; exact T3.out⟩, fun h => by cases h⟩
            · have t3b := str_ne t3
              go_wp2_with fail
              go_quiet (fail)
              go_wp2
              go_roundg (c0 - (j + 1))
              case measure => omega
              case rel => exact ⟨false, j + 1, _, rfl, rfl, by omega, rfl, by go_num, (fun h => by cases h), fun _ hh => t3 (hh.2 j hjc)⟩
          · have hfin : ((c1 : Int) == (c0 : Int)) = sh := by
              cases sh
              · have := hH.2 rfl
                rw [← HIFF.out] at this
                simp; omega
              · have hjc : j = c0 := by have : ¬ j < c0 := fun h => hgo ⟨rfl, h⟩; omega
                obtain ⟨p1, p2⟩ := hH.1 rfl
                rw [hjc] at p2
                have := HIFF.out.2 ⟨p1, p2⟩
                simp; omega
            have hst := hF6.row.cell (i := n) (by omega)
            have hfr := hF6.row.frozen n
            have hF7 := full_again (full_drew hF6 q) (A' 0) (L 0) (C' 0)
            have hTM := full_tat hF7 hs (hs 0 (by omega))
            have hjz : sh = true → ¬ (j : Int) < c0 := fun e => by have : ¬ j < c0 := fun h => hgo ⟨e, h⟩; omega
            clear hs0 hxc ha0 hxa hH hc hgo
            cases sh
            all_goals
              (try have hjz' := hjz rfl)
              clear hjz
              go_wp2_with fail
              clear hst hfr
              refine (zz_group s _ (n + 1) mt _ _ _ _ _ (by unfold maxLen; omega) (ext_le (fun i hi => by have := k3 i hi; unfold maxLen; omega) (by unfold maxLen; omega)) hTM).mono ?_
              rintro e w7 ⟨c2, rfl, hC2, hb8⟩
              have e2 := again (by omega) HC0.out hC2
              have e2b : ((c2 : Int) == (c0 : Int)) = true := by simp; omega
              clear hC2 e2
              go_wp2
              go_ret
              exact ⟨rfl, hb6.trans ((hF7.below.trans (hb8.mono hF7.below.size)).mono hb6.size)⟩
end Go.Proofs.Qxb6602794a
