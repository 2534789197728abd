/- What the laws' walks share. -/
import Derived.Test.YtjogehjgoemdpaaImpl2
import Derived.Test.YtjogehjgoemdpaaRead
import Derived.Test.YtjogehjgoemdpaaSame
namespace Go.Proofs.Ytjogehjgoemdpaa
open Go.RowKit
namespace Bv

theorem sSame_yes (A A' : Option Addr) (l : List Nat) (c c' : Nat) (w : World) (B B' : Nat) (hB : B ≤ w.heap.size) (hB' : B' ≤ w.heap.size) (hr : Row w B A (ints l)) (hr' : Row w B' A' (ints l)) (hl : l.length ≤ 600) :
    Calls Try.prog 31 #[.slice A l.length c, .slice A' l.length c'] w fun e w' => e = .returned (.bool true) ∧ Below w.heap.size w w' :=
  (sSame_any A A' l l c c' w w.heap.size (Nat.le_refl _) (hr.mono hB) (hr'.mono hB') hl hl).mono fun _ _ h => ⟨by rw [h.1]; unfold sameB; simp, h.2⟩
theorem sSame_eq (A A' : Option Addr) (l l' : List Nat) (c c' : Nat) (w : World) (B B' : Nat) (he : l = l') (hB : B ≤ w.heap.size) (hB' : B' ≤ w.heap.size) (hr : Row w B A (ints l)) (hr' : Row w B' A' (ints l')) (hl : l.length ≤ 600) :
    Calls Try.prog 31 #[.slice A l.length c, .slice A' l'.length c'] w fun e w' => e = .returned (.bool true) ∧ Below w.heap.size w w' := by
  subst he
  exact sSame_yes A A' l c c' w B B' hB hB' hr hr' hl
/-- What is in none of both. -/
theorem on_morgan (N : Nat) (f g : Nat → Bool) : on N (fun i => !bitsOf (on N fun i => f i || g i) i) = on N (fun i => bitsOf (on N fun i => !f i) i && bitsOf (on N fun i => !g i) i) :=
  on_congr fun i hi => by rw [bitsOf_on i hi, bitsOf_on i hi, bitsOf_on i hi]; simp
/-- The difference and the intersection. -/
theorem on_apart (N : Nat) (f g : Nat → Bool) : on N (fun i => bitsOf (on N fun i => f i && !g i) i && g i) = [] :=
  on_none fun i hi => by rw [bitsOf_on i hi]; cases f i <;> cases g i <;> rfl
theorem on_whole (N : Nat) (f g : Nat → Bool) : on N (fun i => bitsOf (on N fun i => f i && !g i) i || bitsOf (on N fun i => f i && g i) i) = on N f :=
  on_congr fun i hi => by rw [bitsOf_on i hi, bitsOf_on i hi]; cases f i <;> cases g i <;> rfl
/-- Turned twice. -/
theorem on_twice (N : Nat) (f : Nat → Bool) : on N (fun i => !bitsOf (on N fun i => !f i) i) = on N f :=
  on_congr fun i hi => by rw [bitsOf_on (f := fun i => !f i) i hi]; simp
theorem on_bitsOf (N : Nat) (f : Nat → Bool) : on N (bitsOf (on N f)) = on N f := on_congr fun i hi => bitsOf_on i hi
theorem on_lt {N : Nat} {f : Nat → Bool} : ∀ x ∈ on N f, x < N := fun _ hx => (mem_on.1 hx).1
theorem eqB_same {N : Nat} {f f' : Nat → Bool} (h : ∀ i, N ≤ i → f i = false) (h' : ∀ i, N ≤ i → f' i = false) : eqB ((N + 31) / 32) f f' = sameB (on N f) (on N f') := by
  by_cases e : on N f = on N f'
  · have hs : sameB (on N f) (on N f') = true := by unfold sameB; simp [e]
    rw [hs]
    refine eqB_yes fun j _ => word_congr fun i _ => ?_
    by_cases hi : 32 * j + i < N
    · exact on_inj e _ hi
    · rw [h _ (by omega), h' _ (by omega)]
  · have hs : sameB (on N f) (on N f') = false := by unfold sameB; simp [e]
    rw [hs]
    cases hq : eqB ((N + 31) / 32) f f' with
    | false => rfl
    | true =>
      exfalso
      apply e
      refine on_congr fun i hi => ?_
      unfold eqB at hq
      rw [List.all_eq_true] at hq
      have h1 := hq (i / 32) (by simp; omega)
      simp only [decide_eq_true_eq] at h1
      have h2 := word_inj h1 (i % 32) (Nat.mod_lt _ (by decide))
      rwa [Nat.div_add_mod] at h2
theorem iEq_list (N : Nat) (A A' : Option Addr) (l l' : List Nat) (c c' : Nat) (w : World) (B : Nat) (h2 : N ≤ 300) (hB : B ≤ w.heap.size) (hr : Row w B A (ints l)) (hl : l.length ≤ 600) (hN : ∀ x ∈ l, x < N)
    (hr' : Row w B A' (ints l')) (hl' : l'.length ≤ 600) (hN' : ∀ x ∈ l', x < N) :
    Calls Try.prog 30 #[.agg #[.int .i64 N, .slice A l.length c], .agg #[.int .i64 N, .slice A' l'.length c']] w fun e w' => e = .returned (.bool (sameB (on N (bitsOf l)) (on N (bitsOf l')))) ∧ Below w.heap.size w w' :=
  (iEq_any N A A' l l' c c' w B h2 hB hr hl hN hr' hl' hN').mono fun _ _ h => ⟨by rw [h.1, eqB_same (bitsOf_lt hN) (bitsOf_lt hN')], h.2⟩
theorem iEq_self (N : Nat) (A : Option Addr) (l : List Nat) (c c' : Nat) (w : World) (B : Nat) (h2 : N ≤ 300) (hB : B ≤ w.heap.size) (hr : Row w B A (ints l)) (hl : l.length ≤ 600) (hN : ∀ x ∈ l, x < N) :
    Calls Try.prog 30 #[.agg #[.int .i64 N, .slice A l.length c], .agg #[.int .i64 N, .slice A l.length c']] w fun e w' => e = .returned (.bool true) ∧ Below w.heap.size w w' :=
  (iEq_list N A A l l c c' w B h2 hB hr hl hN hr hl hN).mono fun _ _ h => ⟨by rw [h.1]; unfold sameB; simp, h.2⟩
end Bv
end Go.Proofs.Ytjogehjgoemdpaa
