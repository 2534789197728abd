/- What both Runs give: a list of lists of places; steps opened to small numbers. -/
import Derived.Test.YtjogehjgoemdpaaOwns
import Derived.Test.YtjogehjgoemdpaaSteps
namespace Go.Proofs.Ytjogehjgoemdpaa
open Go.RowKit
namespace Bv

def St.toSI (s : St) : SI := ⟨s.op, s.to, s.a, s.b, s.bit⟩
theorem steps_open {n count : Int} {l : List SI} (h : stepsB n count l = true) : ∃ (N C : Nat) (m : List St), n = N ∧ count = C ∧ l = m.map St.toSI ∧ 1 ≤ N ∧ N ≤ 300 ∧ 1 ≤ C ∧ C ≤ 6 ∧ m.length ≤ 40 ∧ ∀ s ∈ m, s.good N C := by
  unfold stepsB at h
  simp only [Bool.and_eq_true, decide_eq_true_eq, List.all_eq_true] at h
  obtain ⟨hs, ⟨⟨⟨h1, h2⟩, h3⟩, h4⟩, h5⟩ := h
  obtain ⟨N, rfl⟩ := Int.eq_ofNat_of_zero_le (show 0 ≤ n by omega)
  obtain ⟨C, rfl⟩ := Int.eq_ofNat_of_zero_le (show 0 ≤ count by omega)
  refine ⟨N, C, l.map fun s => ⟨s.op.toNat, s.to.toNat, s.a.toNat, s.b.toNat, s.bit.toNat⟩, rfl, rfl, ?_, by omega, by omega, by omega, by omega, by simpa using h5, ?_⟩
  · rw [List.map_map]
    conv => lhs; rw [← List.map_id l]
    apply List.map_congr_left
    intro x hx
    have hx2 := okB_iff.1 (hs x hx)
    cases x
    simp only [St.toSI, Function.comp_apply, id_eq, SI.mk.injEq] at hx2 ⊢
    omega
  · intro s hm
    obtain ⟨x, hx, rfl⟩ := List.mem_map.1 hm
    have := okB_iff.1 (hs x hx)
    refine ⟨?_, ?_, ?_, ?_, ?_⟩ <;> simp only [] <;> omega

/-- For each vector the list of its places that are set. -/
def IsLists (w : World) (outs : List Value) (N : Nat) (F : Nat → Nat → Bool) : Prop :=
  ∀ t, t < outs.length → ∃ A c, outs[t]? = some (.slice A (on N (F t)).length c) ∧ Row w w.heap.size A (ints (on N (F t)))
theorem IsLists.below {w w' : World} {outs : List Value} {N : Nat} {F : Nat → Nat → Bool} (h : IsLists w outs N F) (hb : Below w.heap.size w w') : IsLists w' outs N F := fun t ht => by
  obtain ⟨A, c, h1, h2⟩ := h t ht
  exact ⟨A, c, h1, (h2.below hb).mono hb.size⟩
/-- What both Runs give. -/
def GivesLists (w : World) (N count : Nat) (F : Nat → Nat → Bool) (e : Ending) (w' : World) : Prop :=
  ∃ A c outs, e = .returned (.slice A count c) ∧ outs.length = count ∧ Row w' w'.heap.size A outs ∧ IsLists w' outs N F ∧ Below w.heap.size w w'
theorem Row.far {w w' : World} {B g off n : Nat} {A : Option Addr} {xs : List Value} (h : Row w B A xs) (ho : Only w w' g off n) (hA : ∀ ad, A = some ad → ad.block ≠ g) (hB : B ≤ w.heap.size) : Row w' B A xs := fun k u hk => by
  obtain ⟨ad, e, hl, hc⟩ := h k u hk
  refine ⟨ad, e, hl, (ho.cell_far ?_ ?_).trans hc⟩
  · rw [block_add]; omega
  · rw [block_add]; exact hA ad e
end Bv
end Go.Proofs.Ytjogehjgoemdpaa
