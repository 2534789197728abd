/- A list of steps as a row of numbers, and what the reference states something of. -/
import Derived.Test.YtjogehjgoemdpaaRunp
namespace Go.Proofs.Ytjogehjgoemdpaa
open Go.RowKit
namespace Bv

/-- A step as it comes in. -/
structure SI where
  op : Int
  to : Int
  a : Int
  b : Int
  bit : Int
def SI.nums (s : SI) : List Int := [s.op, s.to, s.a, s.b, s.bit]
/-- The steps' numbers in a row, as cells. -/
def flat (l : List SI) : List Value := l.flatMap fun s => s.nums.map (Value.int .i64)
theorem flat_length : ∀ l : List SI, (flat l).length = 5 * l.length
  | [] => rfl
  | s :: l => by
    have h := flat_length l
    simp only [flat, List.flatMap_cons, List.length_append, List.length_cons] at h ⊢
    rw [h]
    simp [SI.nums]
    omega
theorem flat_snoc (l : List SI) (s : SI) : flat (l ++ [s]) = flat l ++ s.nums.map (Value.int .i64) := by simp [flat]
theorem flat_get : ∀ (l : List SI) (k j : Nat) (hk : k < l.length), j < 5 → (flat l)[5 * k + j]? = (l[k].nums[j]?).map (Value.int .i64)
  | [], _, _, hk => by simp at hk
  | s :: l, 0, j, _ => by
    intro hj
    simp only [flat, List.flatMap_cons]
    rw [List.getElem?_append_left (by simp [SI.nums]; omega)]
    simp
  | s :: l, k + 1, j, hk => by
    intro hj
    have h := flat_get l k j (by simpa using hk) hj
    simp only [flat, List.flatMap_cons] at h ⊢
    rw [List.getElem?_append_right (by simp [SI.nums]; omega)]
    rw [show 5 * (k + 1) + j - (s.nums.map (Value.int .i64)).length = 5 * k + j by simp [SI.nums]; omega, h]
    simp
/-- What is asked of each step. -/
def okB (n count : Int) (s : SI) : Bool :=
  !(decide (s.op < 0) || decide (7 < s.op) || decide (s.to < 0) || decide (s.a < 0) || decide (s.b < 0) || decide (count ≤ s.to) || decide (count ≤ s.a) || decide (count ≤ s.b) || decide (s.bit < 0) || decide (n ≤ s.bit))
def stepsB (n count : Int) (l : List SI) : Bool := l.all (okB n count) && (decide (1 ≤ n) && decide (n ≤ 300) && decide (1 ≤ count) && decide (count ≤ 6) && decide (l.length ≤ 40))
end Bv
end Go.Proofs.Ytjogehjgoemdpaa
