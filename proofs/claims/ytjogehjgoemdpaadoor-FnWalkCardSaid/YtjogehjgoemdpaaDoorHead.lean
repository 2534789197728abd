/- Facts on the translation's header, proved once: its signs as numbers (so that no long string is taken apart by the kernel). -/
import Derived.Test.YtjogehjgoemdpaaDoorRows
import Derived.KernelRfl
import Derived.JoinedOf
namespace Go.Proofs.YtjogehjgoemdpaaDoor
namespace Bv
/-- The signs of the header, by number. -/
def headNums : List Nat := [
  104, 97, 114, 110, 101, 115, 115, 32, 55, 101, 99, 53, 100, 52, 53, 52, 102, 49, 51, 49, 100, 97, 52, 102, 48, 55, 99, 55, 99, 56, 101, 57, 56, 98, 100, 52, 100, 99, 54, 98,
  53, 97, 50, 50, 57, 100, 53, 97, 55, 57, 99, 50, 57, 50, 50, 49, 53, 55, 101, 50, 57, 100, 56, 99, 101, 99, 48, 52, 101, 97, 50, 97, 32, 99, 117, 116, 32, 97, 116, 32,
  108, 111, 111, 112, 46, 101, 120, 97, 109, 112, 108, 101, 47, 112, 117, 98, 45, 98, 105, 116, 118, 101, 99, 116, 111, 114, 115, 47, 108, 97, 119, 115, 46, 70, 110, 78, 101, 120, 116, 32,
  108, 111, 111, 112, 46, 101, 120, 97, 109, 112, 108, 101, 47, 112, 117, 98, 45, 98, 105, 116, 118, 101, 99, 116, 111, 114, 115, 47, 108, 97, 119, 115, 46, 70, 110, 87, 97, 108, 107]
theorem head_eq : Tryd.prog.initOrder = String.ofList (headNums.map Char.ofNat) := by kernel_rfl
theorem head_signs : Tryd.prog.initOrder.toList = headNums.map Char.ofNat := by rw [head_eq, String.toList_ofList]
/-- What the header holds behind the main's word: its words by number. -/
def headRest : List (List Nat) := [
  [99, 117, 116],
  [97, 116],
  [108, 111, 111, 112, 46, 101, 120, 97, 109, 112, 108, 101, 47, 112, 117, 98, 45, 98, 105, 116, 118, 101, 99, 116, 111, 114, 115, 47, 108, 97, 119, 115, 46, 70, 110, 78, 101, 120, 116],
  [108, 111, 111, 112, 46, 101, 120, 97, 109, 112, 108, 101, 47, 112, 117, 98, 45, 98, 105, 116, 118, 101, 99, 116, 111, 114, 115, 47, 108, 97, 119, 115, 46, 70, 110, 87, 97, 108, 107]]
theorem head_words : behindMainWord (wordsSigns Tryd.prog.initOrder.toList) = headRest.map (fun l => l.map Char.ofNat) := by
  rw [head_signs]
  kernel_rfl
/-! The laws are said of whatever program, so that the kernel never takes this one's header apart. -/
theorem strip_cut (r : List (List Char)) : stripLifts liftWords ("cut".toList :: r) = ([], "cut".toList :: r) := by kernel_rfl
theorem lifts_of (P : Program) (r : List (List Char)) (h : behindMainWord (wordsSigns P.initOrder.toList) = "cut".toList :: r) : P.headLifts = [] := by
  unfold Program.headLifts
  rw [h, strip_cut]
  kernel_rfl
theorem make_of (P : Program) (r : List (List Char)) (h : behindMainWord (wordsSigns P.initOrder.toList) = "cut".toList :: r) : P.make = some .cut := by
  unfold Program.make
  rw [h]
  kernel_rfl
theorem final_of (P : Program) (r : List (List Char)) (h : behindMainWord (wordsSigns P.initOrder.toList) = "cut".toList :: r) : P.liftsFinal = false := by
  unfold Program.liftsFinal
  rw [lifts_of P r h, h]
  kernel_rfl
theorem enter_of (P : Program) (r : List (List Char)) (h : behindMainWord (wordsSigns P.initOrder.toList) = "cut".toList :: r) (h1 : P.laysLater = false) (h2 : P.bearsReflect = false) (h3 : P.doorFits [] = true) : P.mayEnter = true := by
  unfold Program.mayEnter
  rw [h]
  simp only [strip_cut, h1, h2, h3]
  kernel_rfl
theorem head_cut : behindMainWord (wordsSigns Tryd.prog.initOrder.toList) = "cut".toList :: headRest.tail.map (fun l => l.map Char.ofNat) := head_words.trans (by kernel_rfl)
theorem liftsFinal : Tryd.prog.liftsFinal = false := final_of Tryd.prog _ head_cut
theorem make : Tryd.prog.make = some .cut := make_of Tryd.prog _ head_cut
theorem mayEnter : Tryd.prog.mayEnter = true := enter_of Tryd.prog _ head_cut (by kernel_rfl) (by kernel_rfl) (by kernel_rfl)
theorem lifted_fact (b : Bool) (h : b = false) : (b == Tryd.prog.liftsFinal) = true := by rw [h, liftsFinal]; rfl
theorem make_fact (m : Make) (h : m = .cut) : (Tryd.prog.make == some m) = true := by rw [h, make]; rfl
theorem and_mk {a b : Bool} (ha : a = true) (hb : b = true) : (a && b) = true := by rw [ha, hb]; rfl
end Bv
end Go.Proofs.YtjogehjgoemdpaaDoor
