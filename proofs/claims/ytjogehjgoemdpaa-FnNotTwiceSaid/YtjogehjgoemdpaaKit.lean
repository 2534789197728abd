/- What the laws' walks share. -/
import Derived.Test.YtjogehjgoemdpaaImpl2
import Derived.Test.YtjogehjgoemdpaaRead
import Derived.Test.YtjogehjgoemdpaaSame
namespace Go.Proofs.Ytjogehjgoemdpaa
open Go.RowKit
namespace Bv

theorem sSame_yes (A A' : Option Addr) (l : List Nat) (c c' : Nat) (w : World) (B B' : Nat) (hB : B ≤ w.heap.size) (hB' : B' ≤ w.heap.size) (hr : Row w B A (ints l)) (hr' : Row w B' A' (ints l)) (hl : l.length ≤ 600) :
    Calls Try.prog 31 #[.slice A l.length c, .slice A' l.length c'] w fun e w' => e = .returned (.bool true) ∧ Below w.heap.size w w' :=
  (sSame_any A A' l l c c' w w.heap.size (Nat.le_refl _) (hr.mono hB) (hr'.mono hB') hl hl).mono fun _ _ h => ⟨by rw [h.1]; unfold sameB; simp, h.2⟩
/-- Turned twice. -/
theorem on_twice (N : Nat) (f : Nat → Bool) : on N (fun i => !bitsOf (on N fun i => !f i) i) = on N f :=
  on_congr fun i hi => by rw [bitsOf_on (f := fun i => !f i) i hi]; simp
theorem on_bitsOf (N : Nat) (f : Nat → Bool) : on N (bitsOf (on N f)) = on N f := on_congr fun i hi => bitsOf_on i hi
theorem on_lt {N : Nat} {f : Nat → Bool} : ∀ x ∈ on N f, x < N := fun _ hx => (mem_on.1 hx).1
end Bv
end Go.Proofs.Ytjogehjgoemdpaa
