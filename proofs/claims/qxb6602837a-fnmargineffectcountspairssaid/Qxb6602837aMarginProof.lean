/- The statement on the margin's effect. -/
import Derived.Test.Qxb6602837aMargin
import Derived.Test.Qxb6602837aOpen
namespace Go.Proofs.Qxb6602837a
open Go.ChangeShapes Go.WideShapes Go.ChangeAt Go.RowKit Go.Deep

theorem trod_more {H : Type} {enc : TypeId × Value → H} {P : Program} {w : World} {base : Nat} {spare : Nat → Bool} {held : Bool} {t : TypeId} {ts : List TypeId} {v : Value} {vs : List Value} {d : DataW H} {ds : List (DataW H)} {p q : List MemPlace}
    (h : DataW.Trod enc P w base spare held t v d p) (h' : DataW.TrodAll enc P w base spare held ts vs ds q) : DataW.TrodAll enc P w base spare held (t :: ts) (v :: vs) (d :: ds) (p ++ q) := ⟨p, q, h, h', rfl⟩

set_option maxRecDepth 100000 in
theorem margin_lifted (os : Os) (started : os.Started) (H : Type) (enc : TypeId × Value → H) :
    ReturnsInHanded {} Try.checked os 5 .any (Rows.fnMarginEffectCountsPairsSpec.pre6 enc Try.prog Try.f5 Rows.fnMarginEffectCountsPairsRow.domain false)
      (Rows.fnMarginEffectCountsPairsSpec.post enc Try.prog Try.f5 false true false false) := by
  refine returnsInHanded_of_change (C := Try.checked) Try.own started (by kernel_rfl) Try.func5
    (ChangeSpec.witness6 (enc := enc) (C := Try.checked) false ⟨#[], #[.int .i64 0, .float .f64 0, .float .f64 0, .bool false, .bool false, .float .f64 0, .float .f64 0, .float .f64 0, .slice none 0 0], []⟩ 8 (by kernel_rfl) (by kernel_rfl) (by kernel_rfl) (by kernel_rfl)) ?_
  intro W base args ds gs before hval0 hW hcnd _
  have hval : ∀ (j : Nat) t v, Try.f5.params[j]? = some t → args[j]? = some v → Value.okWide Try.prog W .any base t v := hval0
  have hW' := hW
  obtain ⟨p, q, hA0, hV, rfl, hfz, hnd⟩ := hW
  have hA : DataW.TrodAll enc Try.prog W 0 (fun _ => true) true Try.f5.params.toList args.toList ds p := hA0
  rw [Try.params5] at hA hval
  obtain ⟨v0, vs0, d0, ds0, p0, q0, hargs, rfl, rfl, h0, r0⟩ := trodAll_cons hA
  obtain ⟨v1, vs1, d1, ds1, p1, q1, rfl, rfl, rfl, h1, r1⟩ := trodAll_cons r0
  obtain ⟨v2, vs2, d2, ds2, p2, q2, rfl, rfl, rfl, h2, r2⟩ := trodAll_cons r1
  obtain ⟨v3, vs3, d3, ds3, p3, q3, rfl, rfl, rfl, h3, r3⟩ := trodAll_cons r2
  obtain ⟨v4, vs4, d4, ds4, p4, q4, rfl, rfl, rfl, h4, r4⟩ := trodAll_cons r3
  obtain ⟨v5, vs5, d5, ds5, p5, q5, rfl, rfl, rfl, h5, r5⟩ := trodAll_cons r4
  obtain ⟨v6, vs6, d6, ds6, p6, q6, rfl, rfl, rfl, h6, r6⟩ := trodAll_cons r5
  obtain ⟨v7, vs7, d7, ds7, p7, q7, rfl, rfl, rfl, h7, r7⟩ := trodAll_cons r6
  obtain ⟨v8, vs8, d8, ds8, p8, q8, rfl, rfl, rfl, h8, r8⟩ := trodAll_cons r7
  obtain ⟨rfl, rfl, rfl⟩ := trodAll_nil r8
  obtain rfl : args = #[v0, v1, v2, v3, v4, v5, v6, v7, v8] := by cases args; simp_all
  obtain ⟨rfl, rfl⟩ := trodVars_none hV
  obtain ⟨mn, rfl, rfl, rfl, w0⟩ := open_int Try.underlying3 (hval 0 3 v0 rfl rfl) h0
  obtain ⟨lv, rfl, rfl, rfl, w1⟩ := open_float Try.underlying23 (hval 1 23 v1 rfl rfl) h1
  obtain ⟨mi, rfl, rfl, rfl, w2⟩ := open_float Try.underlying23 (hval 2 23 v2 rfl rfl) h2
  obtain ⟨liw, rfl, rfl, rfl⟩ := open_bool Try.underlying4 (hval 3 4 v3 rfl rfl) h3
  obtain ⟨rt, rfl, rfl, rfl⟩ := open_bool Try.underlying4 (hval 4 4 v4 rfl rfl) h4
  obtain ⟨mr, rfl, rfl, rfl, w5⟩ := open_float Try.underlying23 (hval 5 23 v5 rfl rfl) h5
  obtain ⟨mg, rfl, rfl, rfl, w6⟩ := open_float Try.underlying23 (hval 6 23 v6 rfl rfl) h6
  obtain ⟨ms, rfl, rfl, rfl, w7⟩ := open_float Try.underlying23 (hval 7 23 v7 rfl rfl) h7
  have k8 := h8
  have lt8 : ∀ x ∈ p8, x.block < W.heap.size := by obtain ⟨m, hm⟩ := k8; exact DataW.trod_lt m _ _ _ hm
  obtain ⟨a8, n8, c8, rfl⟩ := okWide_slice Try.underlying22 (hval 8 22 v8 rfl rfl)
  obtain ⟨X, hX, hn8, _⟩ : ∃ X, FAt W a8 n8 X ∧ n8 ≤ maxLen ∧ ∀ i, i < n8 → X i < 2 ^ 64 := by
    obtain ⟨fuel, hf⟩ := h8
    obtain ⟨a, n, c, X, e, r⟩ := fat_cells (by simpa [Value.cells] using hf)
    simp only [Value.slice.injEq] at e
    obtain ⟨rfl, rfl, rfl⟩ := e
    exact ⟨X, r⟩
  clear hA0 hval0
  refine (margin_walk mn lv mi liw rt mr mg ms a8 n8 c8 X W hn8 hX).mono fun e W' ⟨he, bel⟩ => ?_
  subst he
  exact ⟨_, rfl, _, _, _, [], _, [], hW', trodAll_mk1 (shut_bool Try.underlying4 _), (trod_more (shut_int Try.underlying3 w0) (trod_more (shut_float Try.underlying23 w1) (trod_more (shut_float Try.underlying23 w2) (trod_more (shut_bool Try.underlying4 _) (trod_more (shut_bool Try.underlying4 _) (trod_more (shut_float Try.underlying23 w5) (trod_more (shut_float Try.underlying23 w6) (trod_more (shut_float Try.underlying23 w7) (trodAll_mk1 (Below.trod Try.laidOut (by kernel_rfl) (of_decide_eq_true (by kernel_rfl)) k8 bel lt8)))))))))), rfl, bel.frame _, fun h => by cases h⟩

/-- THE STATEMENT. -/
theorem margin_proved : Rows.FnMarginEffectCountsPairsSaid :=
  OpenClaim.holds_of_wide 5 Try.f5 rfl rfl rfl rfl rfl rfl rfl ⟨rfl, rfl, rfl, rfl, rfl⟩ rfl rfl rfl rfl rfl (by kernel_rfl) Try.func5 (by kernel_rfl)
    (of_decide_eq_true (by kernel_rfl)) (by unfold Func.isWrapper; first | (rw [if_pos (by decide +kernel)]; kernel_rfl) | (rw [if_neg (by decide +kernel)]; exact ⟨rfl, rfl⟩))
    (fun os started H enc _ => margin_lifted os started H enc)
end Go.Proofs.Qxb6602837a
