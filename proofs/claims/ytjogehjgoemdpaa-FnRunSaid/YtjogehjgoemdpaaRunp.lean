/- Plain law of steps over some vectors of one bulk. -/
import Derived.Test.YtjogehjgoemdpaaMem
namespace Go.Proofs.Ytjogehjgoemdpaa
open Go.RowKit
namespace Bv

/-- A step: what is done, to which vector, of which others, and at which place. -/
structure St where
  op : Nat
  to : Nat
  a : Nat
  b : Nat
  bit : Nat
/-- The vectors that a step leaves, the place's truths t i for vector t and place i. -/
def stepBits (s : St) (F : Nat → Nat → Bool) : Nat → Bool :=
  if s.op = 0 then upd (F s.to) s.bit true
  else if s.op = 1 then upd (F s.to) s.bit false
  else if s.op = 2 then fun i => F s.a i && F s.b i
  else if s.op = 3 then fun i => F s.a i || F s.b i
  else if s.op = 4 then fun i => F s.a i && !F s.b i
  else if s.op = 5 then fun i => !F s.to i
  else if s.op = 6 then fun _ => false
  else F s.a
def stepAll (F : Nat → Nat → Bool) (s : St) : Nat → Nat → Bool := fun t => if t = s.to then stepBits s F else F t
def runAll (l : List St) : Nat → Nat → Bool := l.foldl stepAll fun _ _ => false
theorem runAll_snoc (l : List St) (s : St) : runAll (l ++ [s]) = stepAll (runAll l) s := by simp [runAll]
/-- Both are alike below N. -/
def Agree (N : Nat) (G F : Nat → Nat → Bool) : Prop := ∀ t i, i < N → G t i = F t i
theorem Agree.step {N : Nat} {G F : Nat → Nat → Bool} (h : Agree N G F) (s : St) : Agree N (stepAll G s) (stepAll F s) := fun t i hi => by
  unfold stepAll
  by_cases ht : t = s.to
  · rw [if_pos ht, if_pos ht]
    unfold stepBits upd
    repeat' split
    all_goals simp [h _ _ hi]
  · rw [if_neg ht, if_neg ht]
    exact h t i hi
/-- The vector that is written, by what the code writes: f agrees with what the step leaves. -/
theorem Agree.put {N : Nat} {G F : Nat → Nat → Bool} (h : Agree N G F) (s : St) {f : Nat → Bool} (hf : ∀ i, i < N → f i = stepBits s G i) :
    Agree N (fun t => if t = s.to then f else G t) (stepAll F s) := fun t i hi => by
  have h2 := h.step s t i hi
  unfold stepAll at h2 ⊢
  show (if t = s.to then f else G t) i = _
  by_cases ht : t = s.to
  · rw [if_pos ht, if_pos ht] at h2
    rw [if_pos ht, if_pos ht, ← h2]
    exact hf i hi
  · rw [if_neg ht, if_neg ht] at h2
    rw [if_neg ht, if_neg ht]
    exact h2
/-- A step as its five numbers. -/
def St.nums (s : St) : List Nat := [s.op, s.to, s.a, s.b, s.bit]
/-- What the reference states something of. -/
def St.good (n count : Nat) (s : St) : Prop := s.op ≤ 7 ∧ s.to < count ∧ s.a < count ∧ s.b < count ∧ s.bit < n
end Bv
end Go.Proofs.Ytjogehjgoemdpaa
