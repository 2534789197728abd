/- Whatever the numbers and the steps: FnRun returns true, and what was there is as it was. No condition. -/
import Derived.Test.YtjogehjgoemdpaaOpen
import Derived.Test.YtjogehjgoemdpaaRunLaw
import Derived.Test.YtjogehjgoemdpaaOpenRun
import Derived.Test.YtjogehjgoemdpaaHead
namespace Go.Proofs.Ytjogehjgoemdpaa
open Go.ChangeShapes Go.WideShapes Go.ChangeAt Go.RowKit
namespace Bv

set_option maxRecDepth 100000 in
theorem FnRun_lifted (os : Os) (started : os.Started) (H : Type) (enc : TypeId × Value → H) :
    ReturnsInHanded {} Try.checked os 19 .any (Rows.fnRunSpec.pre6 enc Try.prog Try.f19 Rows.fnRunRow.domain false) (Rows.fnRunSpec.post enc Try.prog Try.f19 false true false false) := by
  refine returnsInHanded_of_change (C := Try.checked) own started (by kernel_rfl) Try.func19
    (ChangeSpec.witness6 (enc := enc) (C := Try.checked) false ⟨#[], #[.int .i64 0, .int .i64 0, .slice none 0 0], []⟩ 8 (by kernel_rfl) (by kernel_rfl) (by kernel_rfl) (by kernel_rfl)) ?_
  intro W base args ds gs before hval0 hW hcnd _
  have hval : ∀ (j : Nat) t v, Try.f19.params[j]? = some t → args[j]? = some v → Value.okWide Try.prog W .any base t v := hval0
  have hW' := hW
  obtain ⟨p, q, hA0, hV, rfl, hfz, hnd⟩ := hW
  have hA : DataW.TrodAll enc Try.prog W 0 (fun _ => true) true Try.f19.params.toList args.toList ds p := hA0
  rw [Try.params19] at hA hval
  obtain ⟨v0, vs0, d0, ds0, p0, q0, hargs, rfl, rfl, h0, r0⟩ := trodAll_cons hA
  obtain ⟨v1, vs1, d1, ds1, p1, q1, rfl, rfl, rfl, h1, r1⟩ := trodAll_cons r0
  obtain ⟨v2, vs2, d2, ds2, p2, q2, rfl, rfl, rfl, h2, r2⟩ := trodAll_cons r1
  obtain ⟨rfl, rfl, rfl⟩ := trodAll_nil r2
  obtain rfl : args = #[v0, v1, v2] := by cases args; simp_all
  obtain ⟨rfl, rfl⟩ := trodVars_none hV
  obtain ⟨i0, rfl, rfl, rfl, u0⟩ := open_int Try.underlying3 (hval 0 3 v0 rfl rfl) h0
  obtain ⟨i1, rfl, rfl, rfl, u1⟩ := open_int Try.underlying3 (hval 1 3 v1 rfl rfl) h1
  have k2 := h2
  have lt2 : ∀ x ∈ p2, x.block < W.heap.size := by obtain ⟨m, hm⟩ := k2; exact DataW.trod_lt m _ _ _ hm
  obtain ⟨A2, l2, c2, rfl, hr2⟩ := open_steps (hval 2 48 v2 rfl rfl) h2
  clear hA0 hval0
  refine (FnRun_walk i0 i1 A2 l2 c2 W hr2).mono fun e W' ⟨he, bel⟩ => ?_
  subst he
  exact ⟨_, rfl, _, _, _, [], _, [], hW', trodAll_mk1 (shut_bool Try.underlying4 _), (trodAll_cons_mk (shut_int Try.underlying3 u0) (trodAll_cons_mk (shut_int Try.underlying3 u1) (trodAll_cons_mk (Below.trod laidOut (by kernel_rfl) (of_decide_eq_true (by kernel_rfl)) k2 bel lt2) trodAll_mk0))), rfl, bel.frame _, fun h => by cases h⟩
theorem FnRun_facts : joinedFacts Try.prog 19 Try.f19 Rows.fnRunSpec Rows.fnRunRow = true := by
  unfold joinedFacts
  repeat' (with_reducible refine and_mk ?_ ?_)
  all_goals first | with_reducible exact mayEnter | with_reducible exact lifted_fact _ rfl | with_reducible exact make_fact _ rfl | (as_aux_lemma => kernel_rfl)
end Bv

theorem FnRun_holds : Rows.FnRunSaid :=
  OpenClaim.holds_of_wide 19 Try.f19 rfl rfl rfl rfl rfl rfl rfl ⟨rfl, rfl, rfl, rfl, rfl⟩ rfl rfl rfl rfl rfl (by kernel_rfl) Try.func19 Bv.FnRun_facts
    (of_decide_eq_true (by kernel_rfl)) (by unfold Func.isWrapper; first | (rw [if_pos (by decide +kernel)]; kernel_rfl) | (rw [if_neg (by decide +kernel)]; exact ⟨rfl, rfl⟩))
    (fun os started H enc _ => Bv.FnRun_lifted os started H enc)
#print axioms FnRun_holds
end Go.Proofs.Ytjogehjgoemdpaa
