/- A vector that is an argument, opened: its number of bits and its list of places. -/
import Derived.Test.YtjogehjgoemdpaaRows
import Derived.Test.YtjogehjgoemdpaaMem
import Derived.WalkKit
import Derived.ProofKit
import Derived.Lib.SmallJoins
import Derived.ChangeOld
namespace Go.Proofs.Ytjogehjgoemdpaa
open Go.ChangeShapes Go.WideShapes Go.ChangeAt Go.RowKit
namespace Bv

theorem own : ownKnob Try.prog.godebug = none := by kernel_rfl
theorem laidOut : laidOutB Try.prog = true := by kernel_rfl
theorem cells_vec : Try.prog.cellsOf 24 = 2 := by kernel_rfl
theorem cells_int : Try.prog.cellsOf 3 = 1 := by kernel_rfl

theorem open_vec {H : Type} {enc : TypeId × Value → H} {W : World} {base : Nat} {v : Value} {d : DataW H} {p : List MemPlace} (hv : Value.okWide Try.prog W .any base 24 v)
    (h : DataW.Trod enc Try.prog W 0 (fun _ => true) true 24 v d p) :
    ∃ (N : Int) (A : Option Addr) (l : List Int) (c : Nat), v = .agg #[.int .i64 N, .slice A l.length c] ∧ Row W W.heap.size A (l.map (Value.int .i64)) := by
  obtain ⟨c0, c1, y0, y1, m, rfl, rfl, rfl, t0, t1⟩ := Joins.open_agg2 Try.underlying24 (by kernel_rfl) cells_vec hv h
  obtain ⟨N, e0, _, _⟩ := DataW.trod_int Try.underlying3 t0
  simp at e0
  subst e0
  rcases open_ints Try.underlying22 Try.underlying3 cells_int t1 with ⟨hcs, _⟩ | ⟨a, len, cap, zs, hcs, _, hl, hm, hz, _, hcell, _⟩
  · simp at hcs
    subst hcs
    exact ⟨N, none, [], 0, rfl, fun k u hk => by simp at hk⟩
  · simp at hcs
    subst hcs
    simp at hz
    refine ⟨N, some a, zs.take len, cap, ?_, ?_⟩
    · rw [List.length_take, hz, Nat.min_eq_left hl]
    · intro k u hk
      have hk2 : k < len := by
        have := (List.getElem?_eq_some_iff.1 hk).1
        simp at this
        omega
      have hc := hcell k (by omega)
      have hu : u = .int .i64 (zs.getD k 0) := by
        rw [List.getElem?_map, List.getElem?_take, if_pos hk2] at hk
        rw [List.getD_eq_getElem?_getD]
        have hk3 : k < zs.length := by omega
        rw [List.getElem?_eq_getElem hk3] at hk ⊢
        simpa using hk.symm
      rw [hu]
      refine ⟨a, rfl, ?_, hc⟩
      have := World.block_lt_of_cell? W _ hc
      rwa [block_add] at this
end Bv
end Go.Proofs.Ytjogehjgoemdpaa
