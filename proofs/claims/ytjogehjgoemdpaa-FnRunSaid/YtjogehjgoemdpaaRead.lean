/- Contracts of zzFits1, conv, Good, Has: they only read. -/
import Derived.Test.YtjogehjgoemdpaaCore
namespace Go.Proofs.Ytjogehjgoemdpaa
open Go.RowKit
namespace Bv

set_option maxHeartbeats 400000 in
theorem Fits_yes (N : Int) (A : Option Addr) (n c : Nat) (w : World) (h : n ≤ 2147483647) :
    Calls Try.prog 20 #[.agg #[.int .i64 N, .slice A n c]] w fun e w' => e = .returned (.bool true) ∧ Below w.heap.size w w' := by
  go_enter Try.func20, Try.ntmps20
  go_wp2
  go_ret
  exact ⟨rfl, (Below.refl _ _).alloc (Nat.le_refl _) _⟩
set_option maxHeartbeats 400000 in
theorem Fits_no (N : Int) (A : Option Addr) (n c : Nat) (w : World) (h : 2147483647 < n) :
    Calls Try.prog 20 #[.agg #[.int .i64 N, .slice A n c]] w fun e w' => e = .returned (.bool false) ∧ Below w.heap.size w w' := by
  go_enter Try.func20, Try.ntmps20
  go_wp2
  go_ret
  exact ⟨rfl, (Below.refl _ _).alloc (Nat.le_refl _) _⟩
set_option maxHeartbeats 400000 in
theorem conv_any (N : Int) (A : Option Addr) (n c : Nat) (w : World) :
    Calls Try.prog 21 #[.agg #[.int .i64 N, .slice A n c]] w fun e w' => e = .returned (.agg #[.int .i64 N, .slice A n c]) ∧ Below w.heap.size w w' := by
  go_enter Try.func21, Try.ntmps21
  go_wp2
  refine bodyPost_ret (v := .agg #[.int .i64 N, .slice A n c]) (by simp [results, Try.results21, go_sem]) rfl ⟨rfl, ?_⟩
  exact ((Below.refl _ _).alloc (Nat.le_refl _) _).alloc (by simp) _

set_option maxHeartbeats 400000 in
theorem conv_exact (N : Int) (A : Option Addr) (n c : Nat) (w : World) :
    Calls Try.prog 21 #[.agg #[.int .i64 N, .slice A n c]] w fun e w' => e = .returned (.agg #[.int .i64 N, .slice A n c]) ∧ w' = (w.alloc (.cells #[.int .i64 N, .slice A n c] 24)).alloc (.cells #[.int .i64 N, .slice A n c] 26) := by
  go_enter Try.func21, Try.ntmps21
  go_wp2
  exact bodyPost_ret (v := .agg #[.int .i64 N, .slice A n c]) (by simp [results, Try.results21, go_sem]) rfl ⟨rfl, rfl⟩

/-- What Good asks. -/
def goodB (N : Int) (l : List Int) : Bool := l.all (fun x => decide (0 ≤ x) && decide (x < N)) && (decide (1 ≤ N) && (decide (N ≤ 300) && decide (l.length ≤ 600)))
theorem goodB_out {N : Int} {l : List Int} {k : Nat} (hk : k < l.length) (h : l[k] < 0 ∨ N ≤ l[k]) : goodB N l = false := by
  unfold goodB
  have h1 : l.all (fun x => decide (0 ≤ x) && decide (x < N)) = false := by
    rw [List.all_eq_false]
    refine ⟨l[k], List.getElem_mem hk, ?_⟩
    rcases h with h | h <;> simp <;> omega
  rw [h1]; rfl
theorem goodB_in {N : Int} {l : List Int} (h : ∀ x ∈ l, 0 ≤ x ∧ x < N) : goodB N l = (decide (1 ≤ N) && (decide (N ≤ 300) && decide (l.length ≤ 600))) := by
  unfold goodB
  have h1 : l.all (fun x => decide (0 ≤ x) && decide (x < N)) = true := by
    rw [List.all_eq_true]
    intro x hx
    have := h x hx
    simp; omega
  rw [h1]; rfl
theorem goodB_true {N : Int} {l : List Int} (h : goodB N l = true) : (∀ x ∈ l, 0 ≤ x ∧ x < N) ∧ 1 ≤ N ∧ N ≤ 300 ∧ l.length ≤ 600 := by
  unfold goodB at h
  simp only [Bool.and_eq_true, List.all_eq_true, decide_eq_true_eq] at h
  exact h

set_option maxHeartbeats 800000 in
theorem sGood_any (N : Int) (A : Option Addr) (l : List Int) (c : Nat) (w : World) (B : Nat) (hB : B ≤ w.heap.size) (hr : Row w B A (l.map (Value.int .i64))) (hl : l.length ≤ 2147483647) :
    Calls Try.prog 22 #[.agg #[.int .i64 N, .slice A l.length c]] w fun e w' => e = .returned (.bool (goodB N l)) ∧ Below w.heap.size w w' := by
  go_enter Try.func22, Try.ntmps22
  go_wp2
  go_loop [8] (fun i => ∃ k : Nat, k ≤ l.length ∧ i = .int .i64 k ∧ ∀ x ∈ l.take k, 0 ≤ x ∧ x < N) (fun i => l.length - (intOf i).toNat)
  case atStart => exact ⟨0, Nat.zero_le _, rfl, by simp⟩
  case round =>
    obtain ⟨k, hk, rfl, hin⟩ := hrel
    by_cases hlt : k < l.length
    · obtain ⟨ad, rfl, hadB, hcell⟩ := hr.get k (by simpa using hlt)
      obtain ⟨x, hx⟩ : ∃ x, x = l[k] := ⟨_, rfl⟩
      have hx2 : w.cell? (ad.add k) = some (.int .i64 x) := by rw [hcell, hx]; simp
      have hx3 : ∀ o, (w.alloc o).cell? (ad.add k) = some (.int .i64 x) := fun o => (World.cell?_alloc_lt _ _ _ (by rw [block_add]; omega)).trans hx2
      have Hin : Hid (∀ x ∈ l.take k, 0 ≤ x ∧ x < N) := hin
      by_cases h1 : x < 0
      · have Hx : Hid (goodB N l = false) := goodB_out hlt (Or.inl (by omega))
        clear hcell hr hx2 hin hx
        go_wp2
        go_ret
        rw [Hx.out]
        exact ⟨rfl, (Below.refl _ _).alloc (Nat.le_refl _) _⟩
      · by_cases h2 : N ≤ x
        · have Hx : Hid (goodB N l = false) := goodB_out hlt (Or.inr (by omega))
          clear hcell hr hx2 hin hx
          go_wp2
          go_ret
          rw [Hx.out]
          exact ⟨rfl, (Below.refl _ _).alloc (Nat.le_refl _) _⟩
        · have Hx : Hid (l.take (k + 1) = l.take k ++ [x]) := by rw [hx, List.take_succ_eq_append_getElem hlt]; rfl
          clear hcell hr hx2 hin hx
          go_wp2
          go_round
          case rel =>
            refine ⟨k + 1, by omega, by go_num, ?_⟩
            rw [Hx.out]
            intro y hy
            rcases List.mem_append.1 hy with hy | hy
            · exact Hin.out y hy
            · simp at hy; subst hy; omega
          case measure => simp [intOf]; omega
    · have hke : k = l.length := by omega
      subst hke
      rw [List.take_length] at hin
      have Hg : Hid (goodB N l = (decide (1 ≤ N) && (decide (N ≤ 300) && decide (l.length ≤ 600)))) := goodB_in hin
      clear hin hr
      go_wp2
      all_goals
        go_ret
        refine ⟨ret_bool ?_, (Below.refl _ _).alloc (Nat.le_refl _) _⟩
        rw [Hg.out, Bool.eq_iff_iff]
        simp
        try omega

theorem sGood_no (N : Int) (A : Option Addr) (l : List Int) (c : Nat) (w : World) (B : Nat) (hB : B ≤ w.heap.size) (hr : Row w B A (l.map (Value.int .i64))) (hl : l.length ≤ 2147483647) (hg : goodB N l = false) :
    Calls Try.prog 22 #[.agg #[.int .i64 N, .slice A l.length c]] w fun e w' => e = .returned (.bool false) ∧ Below w.heap.size w w' :=
  (sGood_any N A l c w B hB hr hl).mono fun _ _ h => ⟨by rw [h.1, hg], h.2⟩
theorem ints_cast (l : List Nat) : (l.map Int.ofNat).map (Value.int .i64) = ints l := by simp [ints]
theorem goodB_nat {N : Nat} {l : List Nat} (h1 : 1 ≤ N) (h2 : N ≤ 300) (hl : l.length ≤ 600) (hN : ∀ x ∈ l, x < N) : goodB (N : Int) (l.map Int.ofNat) = true := by
  rw [goodB_in]
  · simp; omega
  · intro x hx
    obtain ⟨y, hy, rfl⟩ := List.mem_map.1 hx
    have := hN y hy
    exact ⟨Int.natCast_nonneg _, by simp; omega⟩
theorem sGood_yes (N : Nat) (A : Option Addr) (l : List Nat) (c : Nat) (w : World) (B : Nat) (hB : B ≤ w.heap.size) (hr : Row w B A (ints l)) (h1 : 1 ≤ N) (h2 : N ≤ 300) (hl : l.length ≤ 600) (hN : ∀ x ∈ l, x < N) :
    Calls Try.prog 22 #[.agg #[.int .i64 N, .slice A l.length c]] w fun e w' => e = .returned (.bool true) ∧ Below w.heap.size w w' := by
  have h := sGood_any N A (l.map Int.ofNat) c w B hB (by rw [ints_cast]; exact hr) (by simp; omega)
  rw [List.length_map] at h
  exact h.mono fun _ _ h => ⟨by rw [h.1, goodB_nat h1 h2 hl hN], h.2⟩
theorem cast_list : ∀ l : List Int, (∀ x ∈ l, 0 ≤ x) → l = (l.map Int.toNat).map Int.ofNat
  | [], _ => rfl
  | x :: r, h => by
    have h1 : x = Int.ofNat x.toNat := by have := h x (by simp); simp; omega
    have h2 := cast_list r fun y hy => h y (by simp [hy])
    rw [List.map_cons, List.map_cons, ← h1, ← h2]
/-- What is good is a vector told by plain numbers. -/
theorem goodB_open {N : Int} {l : List Int} (h : goodB N l = true) : ∃ (M : Nat) (m : List Nat), N = M ∧ l = m.map Int.ofNat ∧ 1 ≤ M ∧ M ≤ 300 ∧ m.length ≤ 600 ∧ ∀ x ∈ m, x < M := by
  obtain ⟨h1, h2, h3, h4⟩ := goodB_true h
  refine ⟨N.toNat, l.map Int.toNat, by omega, ?_, by omega, by omega, by simpa using h4, fun x hx => ?_⟩
  · exact cast_list l fun x hx => (h1 x hx).1
  · obtain ⟨y, hy, rfl⟩ := List.mem_map.1 hx
    have := h1 y hy
    omega

end Bv
end Go.Proofs.Ytjogehjgoemdpaa
