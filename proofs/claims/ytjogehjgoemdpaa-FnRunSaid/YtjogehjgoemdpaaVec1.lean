/- Contracts of IsEmpty, Count, Eq: methods that read vectors. -/
import Derived.Test.YtjogehjgoemdpaaOnes
import Derived.Test.YtjogehjgoemdpaaLists
namespace Go.Proofs.Ytjogehjgoemdpaa
open Go.RowKit
namespace Bv

/-- No word is other than 0. -/
def emptyB (n : Nat) (f : Nat → Bool) : Bool := (List.range n).all fun j => decide (word f j = 0)
theorem emptyB_no {n : Nat} {f : Nat → Bool} {j : Nat} (hj : j < n) (h : word f j ≠ 0) : emptyB n f = false := by
  unfold emptyB
  rw [List.all_eq_false]
  exact ⟨j, by simpa using hj, by simpa using h⟩
theorem emptyB_yes {n : Nat} {f : Nat → Bool} (h : ∀ j, j < n → word f j = 0) : emptyB n f = true := by
  unfold emptyB
  rw [List.all_eq_true]
  intro j hj
  simp at hj
  simpa using h j hj

set_option maxHeartbeats 400000 in
theorem mIsEmpty_any (N g off cap : Nat) (f : Nat → Bool) (w : World) (h2 : N ≤ 300) (hv : Vec w g off N f) :
    Calls Try.prog 47 #[.agg #[.int .i32 N, .slice (some ⟨g, off, none⟩) ((N + 31) / 32) cap]] w fun e w' => e = .returned (.bool (emptyB ((N + 31) / 32) f)) ∧ Below w.heap.size w w' := by
  have hg := hv.lt
  have hcc := hv.cell
  generalize hn : (N + 31) / 32 = n at *
  have hn2 : n ≤ 10 := by omega
  clear hn hv
  go_enter Try.func47, Try.ntmps47
  go_wp2
  go_loop [8] (fun i => ∃ k : Nat, k ≤ n ∧ i = .int .i64 k ∧ ∀ j, j < k → word f j = 0) (fun i => n - (intOf i).toNat)
  case atStart => exact ⟨0, Nat.zero_le _, rfl, fun j hj => absurd hj (by omega)⟩
  case round =>
    obtain ⟨k, hk, rfl, hz⟩ := hrel
    have Hz := hide hz
    clear hz
    by_cases hlt : k < n
    · have hc := hcc k hlt
      have Hcc := hide hcc
      clear hcc
      obtain ⟨x, hx⟩ : ∃ x, x = word f k := ⟨_, rfl⟩
      rw [← hx] at hc
      have Hx := hide hx
      clear hx
      by_cases h0 : x = 0
      · subst h0
        go_wp2
        go_round
        case rel =>
          refine ⟨k + 1, by omega, by go_num, fun j hj => ?_⟩
          by_cases e : j = k
          · rw [e]; exact Hx.out.symm
          · exact Hz.out j (by omega)
        case measure => simp [intOf]; omega
      · have h1 : ((x : Int) != 0) = true := by rw [bne_iff_ne]; omega
        have He := hide (emptyB_no (f := f) hlt (by rw [← Hx.out]; exact h0))
        go_wp2
        go_ret
        rw [He.out]
        exact ⟨rfl, (Below.refl _ _).alloc (Nat.le_refl _) _⟩
    · have hke : k = n := by omega
      subst hke
      have He := hide (emptyB_yes Hz.out)
      clear hcc
      go_wp2
      go_ret
      rw [He.out]
      exact ⟨rfl, (Below.refl _ _).alloc (Nat.le_refl _) _⟩

set_option maxHeartbeats 400000 in
theorem mCount_any (N g off cap : Nat) (f : Nat → Bool) (w : World) (h2 : N ≤ 300) (hv : Vec w g off N f) :
    Calls Try.prog 48 #[.agg #[.int .i32 N, .slice (some ⟨g, off, none⟩) ((N + 31) / 32) cap]] w fun e w' => e = .returned (.int .i64 (cntN f 0 (32 * ((N + 31) / 32)) : Nat)) ∧ Below w.heap.size w w' := by
  have hg := hv.lt
  have hv2 : Vec w g off (32 * ((N + 31) / 32)) f := ⟨hv.lt, fun j hj => hv.cell j (by omega), fun j hj => hv.free j (by omega)⟩
  have hnn : (32 * ((N + 31) / 32) + 31) / 32 = (N + 31) / 32 := by omega
  generalize hn : (N + 31) / 32 = n at *
  have hn2 : n ≤ 10 := by omega
  have Hnn := hide hnn
  clear hn hv hnn
  go_enter Try.func48, Try.ntmps48
  go_wp2
  go_loopw [3, 9] (fun t i wr => ∃ k : Nat, k ≤ n ∧ i = .int .i64 k ∧ t = .int .i64 (cntN f 0 (32 * k) : Nat) ∧ Below w.heap.size w wr) (fun _ i _ => n - (intOf i).toNat)
  case atStart => exact ⟨0, Nat.zero_le _, rfl, rfl, (Below.refl _ _).alloc (Nat.le_refl _) _⟩
  case round =>
    obtain ⟨k, hk, rfl, rfl, hbl⟩ := hrel
    have hcl := cntN_le f 0 (32 * k)
    by_cases hlt : k < n
    · have hc := (hv2.keep hbl).cell k (by rw [Hnn.out]; exact hlt)
      have Hs : Hid (cntN f 0 (32 * (k + 1)) = cntN f 0 (32 * k) + cntN f (32 * k) 32) := by
        have h := cntN_add f 0 (32 * k) 32
        rw [Nat.zero_add] at h
        rw [Nat.mul_add]
        exact h
      have hcl2 := cntN_le f (32 * k) 32
      clear hv2
      go_wp2_with fail
      refine (ones_any f k _).mono ?_
      rintro e w2 ⟨rfl, hb2⟩
      have hb3 := then_ hbl hb2
      clear hb2 hbl hc
      go_wp2_with fail
      go_roundw
      case rel => exact ⟨k + 1, by omega, by go_num, by rw [Hs.out]; go_num, hb3⟩
      case measure => simp [intOf]; omega
    · have hke : k = n := by omega
      subst hke
      clear hv2
      go_wp2
      go_ret
      exact ⟨rfl, hbl⟩

/-- The words are equal. -/
def eqB (n : Nat) (f f' : Nat → Bool) : Bool := (List.range n).all fun j => decide (word f j = word f' j)
theorem eqB_no {n : Nat} {f f' : Nat → Bool} {j : Nat} (hj : j < n) (h : word f j ≠ word f' j) : eqB n f f' = false := by
  unfold eqB
  rw [List.all_eq_false]
  exact ⟨j, by simpa using hj, by simpa using h⟩
theorem eqB_yes {n : Nat} {f f' : Nat → Bool} (h : ∀ j, j < n → word f j = word f' j) : eqB n f f' = true := by
  unfold eqB
  rw [List.all_eq_true]
  intro j hj
  simp at hj
  simpa using h j hj

set_option maxHeartbeats 400000 in
theorem mEq_any (N g off cap g' off' cap' : Nat) (f f' : Nat → Bool) (w : World) (h2 : N ≤ 300) (hv : Vec w g off N f) (hv' : Vec w g' off' N f') :
    Calls Try.prog 49 #[.agg #[.int .i32 N, .slice (some ⟨g, off, none⟩) ((N + 31) / 32) cap], .agg #[.int .i32 N, .slice (some ⟨g', off', none⟩) ((N + 31) / 32) cap']] w
      fun e w' => e = .returned (.bool (eqB ((N + 31) / 32) f f')) ∧ Below w.heap.size w w' := by
  have hg := hv.lt
  have hg' := hv'.lt
  have hcc := hv.cell
  have hcc' := hv'.cell
  generalize hn : (N + 31) / 32 = n at *
  have hn2 : n ≤ 10 := by omega
  clear hn hv hv'
  go_enter Try.func49, Try.ntmps49
  go_wp2
  go_loop [16] (fun i => ∃ k : Nat, k ≤ n ∧ i = .int .i64 k ∧ ∀ j, j < k → word f j = word f' j) (fun i => n - (intOf i).toNat)
  case atStart => exact ⟨0, Nat.zero_le _, rfl, fun j hj => absurd hj (by omega)⟩
  case round =>
    obtain ⟨k, hk, rfl, hz⟩ := hrel
    have Hz := hide hz
    clear hz
    by_cases hlt : k < n
    · have hc := hcc k hlt
      have hc' := hcc' k hlt
      clear hcc hcc'
      obtain ⟨x, hx⟩ : ∃ x, x = word f k := ⟨_, rfl⟩
      obtain ⟨y, hy⟩ : ∃ y, y = word f' k := ⟨_, rfl⟩
      rw [← hx] at hc
      rw [← hy] at hc'
      have Hx := hide hx
      have Hy := hide hy
      clear hx hy
      by_cases h0 : x = y
      · subst h0
        go_wp2
        go_round
        case rel =>
          refine ⟨k + 1, by omega, by go_num, fun j hj => ?_⟩
          by_cases e : j = k
          · rw [e]; exact Hx.out.symm.trans Hy.out
          · exact Hz.out j (by omega)
        case measure => simp [intOf]; omega
      · have h1 : ((x : Int) != (y : Int)) = true := by rw [bne_iff_ne]; omega
        have He := hide (eqB_no (f := f) (f' := f') hlt (by rw [← Hx.out, ← Hy.out]; exact h0))
        clear h0
        go_wp2
        go_ret
        rw [He.out]
        exact ⟨rfl, ((Below.refl _ _).alloc (Nat.le_refl _) _).alloc (by simp) _⟩
    · have hke : k = n := by omega
      subst hke
      have He := hide (eqB_yes Hz.out)
      clear hcc hcc'
      go_wp2
      go_ret
      rw [He.out]
      exact ⟨rfl, ((Below.refl _ _).alloc (Nat.le_refl _) _).alloc (by simp) _⟩
end Bv
end Go.Proofs.Ytjogehjgoemdpaa
