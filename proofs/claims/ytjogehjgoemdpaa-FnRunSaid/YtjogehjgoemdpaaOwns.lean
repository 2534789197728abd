/- A row of the call's own whose elements have several cells, read as a slice. -/
import Derived.Test.YtjogehjgoemdpaaStepsP
import Derived.Test.YtjogehjgoemdpaaLists
namespace Go.Proofs.Ytjogehjgoemdpaa
open Go.RowKit
namespace Bv

theorem Row.of_owns {w : World} {base size : Nat} {e : TypeId} {n c : Nat} {A : Option Addr} {xs : List Value} (h : w.ownsRow base e size (.slice A n c) n xs) : Row w w.heap.size A xs := by
  intro k u hk
  have hkx : k < xs.length := (List.getElem?_eq_some_iff.1 hk).1
  have hx := h.1
  rcases h.2 with ⟨h', h''⟩ | ⟨g, cap, cur, h', hb, hg, hnc, hcm, hcs, htake⟩
  · rw [h'', Nat.zero_mul] at hx
    omega
  · simp only [Value.slice.injEq] at h'
    obtain ⟨rfl, rfl⟩ : A = some ⟨g, 0, none⟩ ∧ c = cap := by simpa using h'
    refine ⟨_, rfl, ?_, ?_⟩
    · rcases Nat.lt_or_ge g w.heap.size with hlt | hge
      · exact hlt
      · rw [Array.getElem?_eq_none hge] at hg; cases hg
    · have e1 : (⟨g, 0, none⟩ : Addr).add k = ⟨g, k, none⟩ := by
        unfold Addr.add
        split
        · rename_i h0; rw [h0]
        · simp
      rw [e1]
      unfold World.cell?
      rw [hg]
      simp only [Option.isSome_none, Bool.false_eq_true, if_false]
      rw [← htake, List.getElem?_take, if_pos (by omega)] at hk
      simpa using hk
theorem owns_row {w : World} {base size : Nat} {e : TypeId} {v : Value} {n : Nat} {xs : List Value} (h : w.ownsRow base e size v n xs) : ∃ A c, v = .slice A n c ∧ Row w w.heap.size A xs := by
  have hs : ∃ A c, v = .slice A n c := by
    rcases h.2 with ⟨rfl, rfl⟩ | ⟨g, cap, cur, rfl, _⟩
    · exact ⟨none, 0, rfl⟩
    · exact ⟨_, _, rfl⟩
  obtain ⟨A, c, rfl⟩ := hs
  exact ⟨A, c, rfl, Row.of_owns h⟩
end Bv
end Go.Proofs.Ytjogehjgoemdpaa
