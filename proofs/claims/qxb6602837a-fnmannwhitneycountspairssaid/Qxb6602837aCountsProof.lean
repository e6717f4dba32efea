/- The statement that counts the pairs. -/
import Derived.Test.Qxb6602837aCounts
import Derived.Test.Qxb6602837aOpen
namespace Go.Proofs.Qxb6602837a
open Go.ChangeShapes Go.WideShapes Go.ChangeAt Go.RowKit Go.Deep

set_option maxRecDepth 100000 in
theorem counts_lifted (os : Os) (started : os.Started) (H : Type) (enc : TypeId × Value → H) :
    ReturnsInHanded {} Try.checked os 3 .any (Rows.fnMannWhitneyCountsPairsSpec.pre6 enc Try.prog Try.f3 Rows.fnMannWhitneyCountsPairsRow.domain false)
      (Rows.fnMannWhitneyCountsPairsSpec.post enc Try.prog Try.f3 false true false false) := by
  refine returnsInHanded_of_change (C := Try.checked) Try.own started (by kernel_rfl) Try.func3
    (ChangeSpec.witness6 (enc := enc) (C := Try.checked) false ⟨#[], #[.slice none 0 0, .float .f64 0, .slice none 0 0], []⟩ 8 (by kernel_rfl) (by kernel_rfl) (by kernel_rfl) (by kernel_rfl)) ?_
  intro W base args ds gs before hval0 hW hcnd _
  have hval : ∀ (j : Nat) t v, Try.f3.params[j]? = some t → args[j]? = some v → Value.okWide Try.prog W .any base t v := hval0
  have hW' := hW
  obtain ⟨p, q, hA0, hV, rfl, hfz, hnd⟩ := hW
  have hA : DataW.TrodAll enc Try.prog W 0 (fun _ => true) true Try.f3.params.toList args.toList ds p := hA0
  rw [Try.params3] at hA hval
  obtain ⟨v0, vs0, d0, ds0, p0, q0, hargs, rfl, rfl, h0, r0⟩ := trodAll_cons hA
  obtain ⟨v1, vs1, d1, ds1, p1, q1, rfl, rfl, rfl, h1, r1⟩ := trodAll_cons r0
  obtain ⟨v2, vs2, d2, ds2, p2, q2, rfl, rfl, rfl, h2, r2⟩ := trodAll_cons r1
  obtain ⟨rfl, rfl, rfl⟩ := trodAll_nil r2
  obtain rfl : args = #[v0, v1, v2] := by cases args; simp_all
  obtain ⟨rfl, rfl⟩ := trodVars_none hV
  have k0 := h0
  have lt0 : ∀ x ∈ p0, x.block < W.heap.size := by obtain ⟨m, hm⟩ := k0; exact DataW.trod_lt m _ _ _ hm
  obtain ⟨s, rfl, rfl, rfl, hs⟩ := open_float Try.underlying23 (hval 1 23 v1 rfl rfl) h1
  have k2 := h2
  have lt2 : ∀ x ∈ p2, x.block < W.heap.size := by obtain ⟨m, hm⟩ := k2; exact DataW.trod_lt m _ _ _ hm
  obtain ⟨a0, n0, c0, rfl⟩ := okWide_slice Try.underlying22 (hval 0 22 v0 rfl rfl)
  obtain ⟨a1, n1, c1, rfl⟩ := okWide_slice Try.underlying22 (hval 2 22 v2 rfl rfl)
  obtain ⟨X, hX, hn0, hX64⟩ : ∃ X, FAt W a0 n0 X ∧ n0 ≤ maxLen ∧ ∀ i, i < n0 → X i < 2 ^ 64 := by
    obtain ⟨fuel, hf⟩ := h0
    obtain ⟨a, n, c, X, e, r⟩ := fat_cells (by simpa [Value.cells] using hf)
    simp only [Value.slice.injEq] at e
    obtain ⟨rfl, rfl, rfl⟩ := e
    exact ⟨X, r⟩
  obtain ⟨Y, hY, hn1, hY64⟩ : ∃ X, FAt W a1 n1 X ∧ n1 ≤ maxLen ∧ ∀ i, i < n1 → X i < 2 ^ 64 := by
    obtain ⟨fuel, hf⟩ := h2
    obtain ⟨a, n, c, X, e, r⟩ := fat_cells (by simpa [Value.cells] using hf)
    simp only [Value.slice.injEq] at e
    obtain ⟨rfl, rfl, rfl⟩ := e
    exact ⟨X, r⟩
  clear hA0 hval0
  refine (counts_walk a0 n0 c0 s a1 n1 c1 X Y W hn0 hn1 hX hY).mono fun e W' ⟨he, bel⟩ => ?_
  subst he
  exact ⟨_, rfl, _, _, _, [], _, [], hW', trodAll_mk1 (shut_bool Try.underlying4 _), (trodAll_mk3 (Below.trod Try.laidOut (by kernel_rfl) (of_decide_eq_true (by kernel_rfl)) k0 bel lt0)
    (shut_float Try.underlying23 hs) (Below.trod Try.laidOut (by kernel_rfl) (of_decide_eq_true (by kernel_rfl)) k2 bel lt2)), rfl, bel.frame _, fun h => by cases h⟩

/-- THE STATEMENT. -/
theorem counts_proved : Rows.FnMannWhitneyCountsPairsSaid :=
  OpenClaim.holds_of_wide 3 Try.f3 rfl rfl rfl rfl rfl rfl rfl ⟨rfl, rfl, rfl, rfl, rfl⟩ rfl rfl rfl rfl rfl (by kernel_rfl) Try.func3 (by kernel_rfl)
    (of_decide_eq_true (by kernel_rfl)) (by unfold Func.isWrapper; first | (rw [if_pos (by decide +kernel)]; kernel_rfl) | (rw [if_neg (by decide +kernel)]; exact ⟨rfl, rfl⟩))
    (fun os started H enc _ => counts_lifted os started H enc)
end Go.Proofs.Qxb6602837a
