/- From the row's condition on the table to the cells that TrailingZeros32 reads; a world that meets it. -/
import Derived.Test.YtjogehjgoemdpaaDoorRows
import Derived.Test.YtjogehjgoemdpaaDoorTz
import Derived.WalkKit
import Derived.ProofKit
import Derived.ChangeOld
import Derived.LaidLaws
import Derived.LaidHandle
import Derived.Lib.LaidTab
import Derived.ChangeSame
import Derived.ChangeVars
import Derived.JoinedOf
import Derived.RowKit
import Derived.RowKitTokens
import Derived.Stop.Joined
namespace Go.Proofs.YtjogehjgoemdpaaDoor
open Go.ChangeShapes Go.WideShapes Go.ChangeAt Go.RowKit
namespace Bv

def tabInts : List Int := Lib.deBruijn32tab.map fun (n : Nat) => (n : Int)
theorem tab_data : (Rows.laid_math_bits_deBruijn32tab : DataW Unit) = Lib.tabData .u8 tabInts := rfl
theorem tab_named : Tryd.prog.globalNamed "math/bits.deBruijn32tab" = some 0 := by kernel_rfl
theorem tab_cells : Tryd.prog.cellsOf 45 = 32 := by kernel_rfl
theorem u8_cells : Tryd.prog.cellsOf 5 = 1 := by kernel_rfl
theorem tab_type : (Tryd.prog.globals[0]?).map (·.type) = some 45 := by kernel_rfl
theorem tab_int : ∀ i, i < 32 → tabInts.getD i 0 = ((Lib.deBruijn32tab.getD i 0 : Nat) : Int) := by
  intro i hi
  simp only [tabInts, List.getD_eq_getElem?_getD, List.getElem?_map]
  cases Lib.deBruijn32tab[i]? <;> rfl
theorem tab_of_laid {W : World} (h : laidMetH Tryd.prog [("math/bits.deBruijn32tab", Rows.laid_math_bits_deBruijn32tab)] W) : Tab W := by
  have h' : laidMet Tryd.prog [("math/bits.deBruijn32tab", Rows.laid_math_bits_deBruijn32tab)] W := h
  rw [tab_data] at h'
  have ht := Lib.tabIs_of_head tab_named tab_type Tryd.underlying45 Tryd.underlying5 u8_cells tab_cells h'
  intro i hi
  rw [ht.cell tab_named i (by rw [show tabInts.length = 32 from rfl]; exact hi), tab_int i hi]

/-- A world that meets the condition: the settled one, the table laid. -/
noncomputable def laidWorld (os : Os) : World :=
  let w0 := World.holding Tryd.prog os ⟨#[], #[], []⟩
  { w0 with heap := w0.heap.modify 0 fun
      | .cells _ t frozen => .cells (tabInts.map fun z => Value.int .u8 z).toArray t frozen
      | o => o }
theorem laidWorld_met (os : Os) (args : Array Value) : laidMetH Tryd.prog [("math/bits.deBruijn32tab", Rows.laid_math_bits_deBruijn32tab)] ((laidWorld os).forCall (fun _ _ => 0) ⟨#[], args, []⟩).memory :=
  laidMet_of_run' 8 (by kernel_rfl) (by kernel_rfl)
end Bv
end Go.Proofs.YtjogehjgoemdpaaDoor
