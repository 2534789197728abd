/- Whatever the vector: FnWalk returns true, and what was there is as it was; the table of math/bits lies as the program's text lays it. -/
import Derived.Test.YtjogehjgoemdpaaDoorOpen
import Derived.Test.YtjogehjgoemdpaaDoorWalkLaw
import Derived.Test.YtjogehjgoemdpaaDoorHead
import Derived.Test.YtjogehjgoemdpaaDoorLaid
import Derived.Test.YtjogehjgoemdpaaDoorCards
import Derived.Test.YtjogehjgoemdpaaDoorTie
import Derived.SevenTiedAt
namespace Go.Proofs.YtjogehjgoemdpaaDoor
open Go.ChangeShapes Go.WideShapes Go.ChangeAt Go.RowKit
namespace Bv

set_option maxRecDepth 100000 in
theorem FnWalk_lifted (os : Os) (started : os.Started) (H : Type) (enc : TypeId × Value → H) :
    ReturnsInHanded {} Tryd.checked os 4 .any (fun w args => (Rows.fnWalkSpec.pre enc Tryd.prog Tryd.f4 [] false w args ∧ laidMetH Tryd.prog Rows.fnWalkRow.laid w) ∧ sizedMet enc Tryd.prog Tryd.f4 (OpenSpec.ofChange Rows.fnWalkSpec) false w args)
      (Rows.fnWalkSpec.post enc Tryd.prog Tryd.f4 false true false false) := by
  refine returnsInHanded_of_change_and (C := Tryd.checked) (X := fun w _ => laidMetH Tryd.prog Rows.fnWalkRow.laid w) (fun _ _ _ hh h => h.of_heap hh) own started (by kernel_rfl) Tryd.func4
    (ChangeSpec.witness_at (enc := enc) (C := Tryd.checked) (os := os) (X := fun w _ => laidMetH Tryd.prog Rows.fnWalkRow.laid w) false (laidWorld os) #[.agg #[.int .i64 0, .slice none 0 0]] 8 rfl (by kernel_rfl) (by kernel_rfl) (by kernel_rfl) (by kernel_rfl) (by kernel_rfl) (laidWorld_met os _)) ?_
  intro W base args ds gs before hval0 hW _ _ hL _
  have hval : ∀ (j : Nat) t v, Tryd.f4.params[j]? = some t → args[j]? = some v → Value.okWide Tryd.prog W .any base t v := hval0
  have hW' := hW
  obtain ⟨p, q, hA0, hV, rfl, hfz, hnd⟩ := hW
  have hA : DataW.TrodAll enc Tryd.prog W 0 (fun _ => true) true Tryd.f4.params.toList args.toList ds p := hA0
  rw [Tryd.params4] at hA hval
  obtain ⟨v0, vs0, d0, ds0, p0, q0, hargs, rfl, rfl, h0, r0⟩ := trodAll_cons hA
  obtain ⟨rfl, rfl, rfl⟩ := trodAll_nil r0
  obtain rfl : args = #[v0] := by cases args; simp_all
  obtain ⟨rfl, rfl⟩ := trodVars_none hV
  have k0 := h0
  have lt0 : ∀ x ∈ p0, x.block < W.heap.size := by obtain ⟨m, hm⟩ := k0; exact DataW.trod_lt m _ _ _ hm
  obtain ⟨N, A, l, c, rfl, hr⟩ := open_vec (hval 0 24 v0 rfl rfl) h0
  have hT : Tab W := tab_of_laid hL
  clear hA0 hval0
  refine (FnWalk_walk N A l c W hr hT).mono fun e W' ⟨he, bel⟩ => ?_
  subst he
  exact ⟨_, rfl, _, _, _, [], _, [], hW', trodAll_mk1 (shut_bool Tryd.underlying4 _), (trodAll_cons_mk (Below.trod laidOut (by kernel_rfl) (of_decide_eq_true (by kernel_rfl)) k0 bel lt0) trodAll_mk0), rfl, bel.frame _, fun h => by cases h⟩
theorem FnWalk_facts : joinedFacts Tryd.prog 4 Tryd.f4 Rows.fnWalkSpec Rows.fnWalkRow = true := by
  unfold joinedFacts
  repeat' (with_reducible refine and_mk ?_ ?_)
  all_goals first | with_reducible exact mayEnter | with_reducible exact lifted_fact _ rfl | with_reducible exact make_fact _ rfl | (as_aux_lemma => kernel_rfl)
theorem FnWalk_row : Rows.FnWalkSaid :=
  OpenClaim.holds_of_wide 4 Tryd.f4 rfl rfl rfl rfl rfl rfl rfl ⟨rfl, rfl, rfl, rfl, rfl⟩ rfl rfl rfl rfl rfl (by kernel_rfl) Tryd.func4 FnWalk_facts
    (of_decide_eq_true (by kernel_rfl)) (by unfold Func.isWrapper; first | (rw [if_pos (by decide +kernel)]; kernel_rfl) | (rw [if_neg (by decide +kernel)]; exact ⟨rfl, rfl⟩))
    (fun os started H enc _ => FnWalk_lifted os started H enc)
theorem FnWalk_found : Tryd.prog.funcNamed "loop.example/pub-bitvectors/laws.FnWalk" = some 4 := by kernel_rfl
theorem vec_plain : Tryd.prog.wantsStandIn 24 = false := by kernel_rfl
theorem int_plain : Tryd.prog.wantsStandIn 3 = false := by kernel_rfl
end Bv

theorem FnWalk_card : Rows.FnWalkCardSaid :=
  Claim7.holds_tied_plain_at .later [] [.data] true (true, "7ec5d454f131da4f07c7c8e98bd4dc6b5a229d5a79c2922157e29d8cec04ea2a") false
    Bv.FnWalk_row (fun _ h => by cases h) (by kernel_rfl) (fun _ h => by cases h) fnWalk_row_tie rfl ⟨rfl, rfl⟩ (by kernel_rfl) rfl
    (fun f fn hf hfn => by
      obtain rfl : f = 4 := Option.some.inj (Bv.FnWalk_found.symm.trans hf) |>.symm
      obtain rfl : fn = Tryd.f4 := (Option.some.inj (Tryd.func4.symm.trans hfn)).symm
      exact ⟨by kernel_rfl, fun j t ht => by
        rw [Tryd.params4] at ht
        match j, ht with
        | 0, ht => obtain rfl := Option.some.inj ht; exact Bv.vec_plain
        | j + 1, ht => simp at ht⟩)
    (by kernel_rfl)
#print axioms FnWalk_card
end Go.Proofs.YtjogehjgoemdpaaDoor
