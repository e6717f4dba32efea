/- The law that Given grows with the fields that are set: its walk. -/
import Derived.Test.Qxb6602856aTally
import Derived.Deep.DeepCutAuto
import Derived.Deep.CutBlock
namespace Go.Proofs.Qxb6602856a
open Go.RowKit

/-- Where each field of the one is set in the other too, the one's names are met in the other's, in order. -/
theorem gr_flags (a1 a2 a3 a4 b1 b2 b3 b4 : Bool) (h1 : a1 = true → b1 = true) (h2 : a2 = true → b2 = true) (h3 : a3 = true → b3 = true) (h4 : a4 = true → b4 = true) :
    gr (G nm (flag a1 a2 a3 a4) 4) (G nm (flag b1 b2 b3 b4) 4) = (G nm (flag a1 a2 a3 a4) 4).length := by
  have key : ∀ a1 a2 a3 a4 b1 b2 b3 b4 : Bool, (!a1 || b1) = true → (!a2 || b2) = true → (!a3 || b3) = true → (!a4 || b4) = true →
      gr (G nm (flag a1 a2 a3 a4) 4) (G nm (flag b1 b2 b3 b4) 4) = (G nm (flag a1 a2 a3 a4) 4).length := by decide
  refine key _ _ _ _ _ _ _ _ ?_ ?_ ?_ ?_
  · cases a1 <;> simp_all
  · cases a2 <;> simp_all
  · cases a3 <;> simp_all
  · cases a4 <;> simp_all

/-- A field of the one is not set in the other. -/
def bad (a1 a2 a3 a4 b1 b2 b3 b4 : Bool) : Bool := (a1 && !b1) || (a2 && !b2) || (a3 && !b3) || (a4 && !b4)

set_option maxHeartbeats 4000000 in
set_option maxRecDepth 100000 in
theorem mono_walk (a1 a2 a3 a4 b1 b2 b3 b4 : Bool) (w : World) :
    Calls Try.prog 6 #[.bool a1, .bool a2, .bool a3, .bool a4, .bool b1, .bool b2, .bool b3, .bool b4] w fun e w' => Yes w e w' := by
  go_enter Try.func6, Try.ntmps6
  go_upto_region 1 with fail
  go_cut [4, 5, 6, 7, 46] (fun s4 s5 s6 s7 s46 wx => s4 = .bool b1 ∧ s5 = .bool b2 ∧ s6 = .bool b3 ∧ s7 = .bool b4 ∧ s46 = .bool (bad a1 a2 a3 a4 b1 b2 b3 b4) ∧ wx = w)
  case first =>
    cases a1 <;> cases a2 <;> cases a3 <;> cases a4
    all_goals
      go_wp2
      all_goals
        go_meet
        exact ⟨by simp_all, by simp_all, by simp_all, by simp_all, by simp_all [bad], rfl⟩
  case rest =>
    obtain ⟨rfl, rfl, rfl, rfl, rfl, rfl⟩ := hcut
    cases hb : bad a1 a2 a3 a4 b1 b2 b3 b4
    · have hle : (a1 = true → b1 = true) ∧ (a2 = true → b2 = true) ∧ (a3 = true → b3 = true) ∧ (a4 = true → b4 = true) := by
        simp only [bad, Bool.or_eq_false_iff] at hb
        obtain ⟨⟨⟨h1, h2⟩, h3⟩, h4⟩ := hb
        refine ⟨fun e => ?_, fun e => ?_, fun e => ?_, fun e => ?_⟩ <;> subst e <;> simp_all
      have hgr := gr_flags a1 a2 a3 a4 b1 b2 b3 b4 hle.1 hle.2.1 hle.2.2.1 hle.2.2.2
      have HGR : Hid (gr (G nm (flag a1 a2 a3 a4) 4) (G nm (flag b1 b2 b3 b4) 4) = (G nm (flag a1 a2 a3 a4) 4).length) := hgr
      clear hle hgr
      have HA : Hid ((G nm (flag a1 a2 a3 a4) 4).length = tally a1 a2 a3 a4) := G_flag_len a1 a2 a3 a4
      have HB : Hid ((G nm (flag b1 b2 b3 b4) 4).length = tally b1 b2 b3 b4) := G_flag_len b1 b2 b3 b4
      have htA := tally_le a1 a2 a3 a4
      have htB := tally_le b1 b2 b3 b4
      have hA4 : (G nm (flag a1 a2 a3 a4) 4).length ≤ 4 := by rw [HA.out]; exact htA
      have hB4 : (G nm (flag b1 b2 b3 b4) 4).length ≤ 4 := by rw [HB.out]; exact htB
      clear hb
      go_wp2_with fail
      refine (build_any a1 _ _ a2 a3 a4 wc).mono ?_
      rintro e w1 ⟨rfl, hS1, _, hb1⟩
      go_wp2_with fail
      refine (build_any b1 _ _ b2 b3 b4 w1).mono ?_
      rintro e w2 ⟨rfl, hS2, _, hb2⟩
      have hS1' := src_below hS1 hb2
      have hb2' := hb1.trans (hb2.mono hb1.size)
      clear hS1 hb1 hb2
      go_wp2_with fail
      refine (given_any _ a1 a2 a3 a4 w2 hS1').mono ?_
      rintro e w3 ⟨ga, gc, rfl, hL3, hb3⟩
      have hS2' := src_below hS2 hb3
      have hb3' := hb2'.trans (hb3.mono hb2'.size)
      clear hS1' hS2 hb3 hb2'
      go_wp2_with fail
      refine (given_any _ b1 b2 b3 b4 w3 hS2').mono ?_
      rintro e w4 ⟨gb, gd, rfl, hL4, hb4⟩
      have hL3' := lat_below hL3 hb4
      have hb4' := hb3'.trans (hb4.mono hb3'.size)
      clear hL3 hS2' hb4 hb3'
      generalize G nm (flag a1 a2 a3 a4) 4 = lA at *
      generalize G nm (flag b1 b2 b3 b4) 4 = lB at *
      go_wp2_with fail
      refine (sub_any ga lA gc gb lB gd w4 hA4 hB4 hL3' hL4).mono ?_
      rintro e w5 ⟨β, q, rfl, hβ, rfl⟩
      have hβ1 := hβ HGR.out
      subst hβ1
      clear hβ HGR hL3' hL4
      have hd : (((lB.length : Int) - (lA.length : Int)) == ((tally b1 b2 b3 b4 : Int) - (tally a1 a2 a3 a4 : Int))) = true := by rw [HA.out, HB.out]; simp
      go_wp2_with fail
      refine (count_true b1 b2 b3 b4 _).mono ?_
      rintro e w6 ⟨rfl, rfl⟩
      go_wp2_with fail
      refine (count_true a1 a2 a3 a4 _).mono ?_
      rintro e w7 ⟨rfl, rfl⟩
      go_wp2
      go_ret
      exact ⟨rfl, below_drewN hb4' _⟩
    · go_wp2
      go_ret
      exact ⟨rfl, Below.refl _ _⟩
end Go.Proofs.Qxb6602856a
