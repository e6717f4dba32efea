/- The law that Given lists exactly the fields that are set: its walk. -/
import Derived.Test.Qxb6602856aTally
namespace Go.Proofs.Qxb6602856a
open Go.RowKit

/-- The numbers of the fields that are set, in order. -/
def ids (a b c d : Bool) : List Nat := (if a then [0] else []) ++ (if b then [1] else []) ++ (if c then [2] else []) ++ (if d then [3] else [])

theorem ids_names (a b c d : Bool) : G nm (flag a b c d) 4 = (ids a b c d).map nm := by
  cases a <;> cases b <;> cases c <;> cases d <;> rfl

theorem ids_small (a b c d : Bool) : ∀ i ∈ ids a b c d, i < 4 := by
  cases a <;> cases b <;> cases c <;> cases d <;> decide

theorem ids_up (a b c d : Bool) : ∀ k, k + 1 < (ids a b c d).length → (ids a b c d).getD k 0 < (ids a b c d).getD (k + 1) 0 := by
  have h : ∀ a b c d : Bool, ∀ k, k < 4 → k + 1 < (ids a b c d).length → (ids a b c d).getD k 0 < (ids a b c d).getD (k + 1) 0 := by decide
  have hl : (ids a b c d).length ≤ 4 := by cases a <;> cases b <;> cases c <;> cases d <;> decide
  exact fun k hk => h a b c d k (by omega) hk

theorem nm_inj : ∀ i, i < 4 → ∀ j, j < 4 → nm i = nm j → i = j := by decide

theorem mem_ids (a b c d : Bool) (i : Nat) (hi : i < 4) : nm i ∈ G nm (flag a b c d) 4 ↔ i ∈ ids a b c d := by
  rw [ids_names, List.mem_map]
  constructor
  · rintro ⟨j, hj, e⟩
    rw [← nm_inj j (ids_small a b c d j hj) i hi e]; exact hj
  · exact fun h => ⟨i, h, rfl⟩

theorem has_ids (a b c d : Bool) : (nm 0 ∈ G nm (flag a b c d) 4 ↔ a = true) ∧ (nm 1 ∈ G nm (flag a b c d) 4 ↔ b = true) ∧ (nm 2 ∈ G nm (flag a b c d) 4 ↔ c = true) ∧ (nm 3 ∈ G nm (flag a b c d) 4 ↔ d = true) := by
  rw [mem_ids a b c d 0 (by omega), mem_ids a b c d 1 (by omega), mem_ids a b c d 2 (by omega), mem_ids a b c d 3 (by omega)]
  cases a <;> cases b <;> cases c <;> cases d <;> decide

theorem name_at {a b c d : Bool} {k : Nat} (h : k < (G nm (flag a b c d) 4).length) : (G nm (flag a b c d) 4)[k] = nm ((ids a b c d).getD k 0) ∧ (ids a b c d).getD k 0 < 4 := by
  have hk : k < (ids a b c d).length := by rw [ids_names, List.length_map] at h; exact h
  have e : (ids a b c d).getD k 0 = (ids a b c d)[k] := by simp [List.getD, hk]
  refine ⟨?_, by rw [e]; exact ids_small a b c d _ (List.getElem_mem hk)⟩
  rw [e]
  simp only [ids_names, List.getElem_map]

set_option maxHeartbeats 4000000 in
set_option maxRecDepth 100000 in
theorem exact_walk (a : Bool) (s1 s2 : ByteArray) (b c d : Bool) (w : World) (h1 : s1.size ≤ maxLen) (h2 : s2.size ≤ maxLen) :
    Calls Try.prog 5 #[.bool a, .string s1, .string s2, .bool b, .bool c, .bool d] w fun e w' => Yes w e w' := by
  go_enter Try.func5, Try.ntmps5
  go_wp2_with fail
  refine (zz_exact a s1 s2 b c d w h1 h2).mono ?_
  rintro e w1 ⟨β, rfl, rfl⟩
  cases β
  · go_wp2
    go_ret
    exact ⟨rfl, Below.refl _ _⟩
  by_cases hs1 : (524288 : Int) < s1.size
  · go_wp2
    go_ret
    exact ⟨rfl, Below.refl _ _⟩
  by_cases hs2 : (524288 : Int) < s2.size
  · go_wp2
    go_ret
    exact ⟨rfl, Below.refl _ _⟩
  go_wp2_with fail
  refine (build_any a s1 s2 b c d w1).mono ?_
  rintro e w2 ⟨rfl, hS2, hF2, hb2⟩
  go_wp2_with fail
  refine (given_any _ a b c d w2 hS2).mono ?_
  rintro e w3 ⟨ga, gc, rfl, hL3, hb3⟩
  have hS3 := src_below hS2 hb3
  have hF3 := fld_below hF2 hb3
  have hb3' := hb2.trans (hb3.mono hb2.size)
  clear hS2 hF2 hb2 hb3
  have HA : Hid ((G nm (flag a b c d) 4).length = tally a b c d) := G_flag_len a b c d
  have htA := tally_le a b c d
  have hA4 : (G nm (flag a b c d) 4).length ≤ 4 := by rw [HA.out]; exact htA
  obtain ⟨q0, q1, q2, q3⟩ := has_ids a b c d
  have hname : Hid (∀ k (h : k < (G nm (flag a b c d) 4).length), (G nm (flag a b c d) 4)[k] = nm ((ids a b c d).getD k 0) ∧ (ids a b c d).getD k 0 < 4) := fun k h => name_at h
  have hup : Hid (∀ k, k + 1 < (G nm (flag a b c d) 4).length → (ids a b c d).getD k 0 < (ids a b c d).getD (k + 1) 0) := fun k h => ids_up a b c d k (by rw [ids_names, List.length_map] at h; exact h)
  generalize G nm (flag a b c d) 4 = l at *
  generalize ids a b c d = id at *
  go_wp2_with fail
  refine (count_true a b c d _).mono ?_
  rintro e w4 ⟨rfl, rfl⟩
  have heq := fun w => Lib.run_eql_slice_nil (P := Try.prog) w 27 9 ga l.length gc 0 0 Try.underlying27
  have e1 : ga.isNone = ((tally a b c d : Int) == 0) := by
    by_cases hl : l = []
    · rw [hL3.1 hl, ← HA.out, hl]; rfl
    · have hpos : 0 < l.length := List.length_pos_iff.2 hl
      obtain ⟨g, hg, _⟩ := hL3.2 0 hpos
      have : ((tally a b c d : Int) == 0) = false := by rw [← HA.out]; simp; omega
      rw [hg, this]; rfl
  have e2 : ((l.length : Int) != (tally a b c d : Int)) = false := by rw [HA.out]; simp
  go_wp2_with fail
  clear heq e1 e2
  go_loopg [16] l.length (fun g iv wx => wx = w4 ∧ ∃ k : Nat, g = l.length - k ∧ k ≤ l.length ∧ iv = .int .i64 k)
  case atStart => exact ⟨rfl, 0, rfl, Nat.zero_le _, rfl⟩
  case round =>
    obtain ⟨rfl, k, rfl, hk, rfl⟩ := hrel
    by_cases hlt : k < l.length
    · have hz : (k : Int) < l.length := by omega
      obtain ⟨g, rfl, ck⟩ := hL3.2 k hlt
      obtain ⟨n1, n2⟩ := hname k hlt
      rw [n1] at ck
      obtain ⟨x, hx⟩ : ∃ x, x = id.getD k 0 := ⟨_, rfl⟩
      rw [← hx] at ck n2
      have HX : Hid (x = id.getD k 0) := hx
      clear n1 hx hF3 hS3
      by_cases hk0 : k = 0
      · have hpos : ¬ (0 : Int) < (k : Int) := by omega
        have hpos2 : decide (0 < k) = false := by simp; omega
        clear hL3 hname hup hk0
        go_wp2_with fail
        refine (rank_any x n2 _).mono ?_
        rintro e w5 ⟨rfl, rfl⟩
        go_wp2
        go_roundg (l.length - (k + 1))
        case measure => omega
        case rel => exact ⟨rfl, k + 1, rfl, by omega, by go_num⟩
      · obtain ⟨k, rfl⟩ : ∃ k', k = k' + 1 := ⟨k - 1, by omega⟩
        obtain ⟨g', hg', ck1⟩ := hL3.2 k (by omega)
        obtain rfl : g = g' := by simp at hg'; exact hg'
        obtain ⟨n3, n4⟩ := hname k (by omega)
        rw [n3] at ck1
        obtain ⟨y, hy⟩ : ∃ y, y = id.getD k 0 := ⟨_, rfl⟩
        rw [← hy] at ck1 n4
        have hlty : y < x := by rw [hy, HX.out]; exact hup k hlt
        have hltz : ¬ (x : Int) ≤ (y : Int) := by omega
        have hpos : (0 : Int) < (k : Int) + 1 := by omega
        have hpos2 : decide ((0 : Int) < (k : Int) + 1) = true := by simp
        clear n3 hy hL3 hname hup hk0 hg' HX
        go_wp2_with fail
        refine (rank_any x n2 _).mono ?_
        rintro e w5 ⟨rfl, rfl⟩
        go_wp2_with fail
        refine (rank_any y n4 _).mono ?_
        rintro e w5 ⟨rfl, rfl⟩
        go_wp2
        go_roundg (l.length - (k + 1 + 1))
        case measure => omega
        case rel => exact ⟨rfl, k + 1 + 1, rfl, by omega, by go_num⟩
    · have hz : ¬ (k : Int) < l.length := by omega
      clear hname hup
      go_wp2_with fail
      refine (has_any ga l gc _ wr hA4 hL3).mono ?_
      rintro e w5 ⟨β, rfl, hβ, rfl⟩
      obtain rfl : β = a := Bool.eq_iff_iff.2 (hβ.trans q0)
      clear hβ
      go_wp2_with fail
      refine (has_any ga l gc _ _ hA4 hL3).mono ?_
      rintro e w6 ⟨γ, rfl, hβ, rfl⟩
      obtain rfl : γ = b := Bool.eq_iff_iff.2 (hβ.trans q1)
      clear hβ
      go_wp2_with fail
      refine (has_any ga l gc _ _ hA4 hL3).mono ?_
      rintro e w7 ⟨δ, rfl, hβ, rfl⟩
      obtain rfl : δ = c := Bool.eq_iff_iff.2 (hβ.trans q2)
      clear hβ
      go_wp2_with fail
      refine (has_any ga l gc _ _ hA4 hL3).mono ?_
      rintro e w8 ⟨ε, rfl, hβ, rfl⟩
      obtain rfl : ε = d := Bool.eq_iff_iff.2 (hβ.trans q3)
      clear hβ q0 q1 q2 q3 hL3
      cases β
      · obtain ⟨P0, P1, P2, P3, c0, _, _, _, f0, _⟩ := hS3
        have hP0 : P0 = none := by cases P0; rfl; cases f0
        rw [hP0] at c0
        clear hF3 f0 hP0
        go_wp2
        go_ret
        exact ⟨rfl, hb3'⟩
      · obtain ⟨g, c0, c1, c2⟩ := hF3 rfl
        clear hS3 hF3
        go_wp2
        go_ret
        exact ⟨rfl, hb3'⟩
end Go.Proofs.Qxb6602856a
