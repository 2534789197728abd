/- Contracts of Get and Has. -/
import Derived.Test.YtjogehjgoemdpaaCore
namespace Go.Proofs.Ytjogehjgoemdpaa
open Go.RowKit
namespace Bv

set_option maxHeartbeats 400000 in
theorem mGet_nat (N i g off cap : Nat) (f : Nat → Bool) (w : World) (h1 : i < N) (h2 : N ≤ 300) (hv : Vec w g off N f) :
    Calls Try.prog 46 #[.agg #[.int .i32 N, .slice (some ⟨g, off, none⟩) ((N + 31) / 32) cap], .int .i32 i] w fun e w' => e = .returned (.bool (f i)) ∧ Below w.heap.size w w' := by
  have hg := hv.lt
  have hc := hv.cell (i / 32) (by omega)
  have hf := hv.free (i / 32) (by omega)
  go_enter Try.func46, Try.ntmps46
  go_wp2
  go_ret
  refine ⟨ret_bool ?_, (Below.refl _ _).alloc (Nat.le_refl _) _⟩
  rw [pow_int (Nat.mod_lt _ (by decide)), u32_and_nat _ _ (word_lt f _) (pow_lt32 (Nat.mod_lt _ (by decide)))]
  exact get_bool (word_at f i)

theorem mGet_any (N : Nat) (i : Int) (g off cap : Nat) (f : Nat → Bool) (w : World) (h0 : 0 ≤ i) (h1 : i < N) (h2 : N ≤ 300) (hv : Vec w g off N f) :
    Calls Try.prog 46 #[.agg #[.int .i32 N, .slice (some ⟨g, off, none⟩) ((N + 31) / 32) cap], .int .i32 i] w fun e w' => e = .returned (.bool (f i.toNat)) ∧ Below w.heap.size w w' := by
  obtain ⟨i, rfl⟩ := Int.eq_ofNat_of_zero_le h0
  exact mGet_nat N i g off cap f w (by omega) h2 hv
set_option maxHeartbeats 400000 in
theorem sHas_any (N : Int) (A : Option Addr) (l : List Nat) (c i : Nat) (w : World) (B : Nat) (hB : B ≤ w.heap.size) (hr : Row w B A (ints l)) (hl : l.length ≤ 600) :
    Calls Try.prog 24 #[.agg #[.int .i64 N, .slice A l.length c], .int .i64 i] w fun e w' => e = .returned (.bool (bitsOf l i)) ∧ Below w.heap.size w w' := by
  go_enter Try.func24, Try.ntmps24
  go_wp2
  go_loop [10] (fun j => ∃ k : Nat, k ≤ l.length ∧ j = .int .i64 k ∧ i ∉ l.take k) (fun j => l.length - (intOf j).toNat)
  case atStart => exact ⟨0, Nat.zero_le _, rfl, by simp⟩
  case round =>
    obtain ⟨k, hk, rfl, hin⟩ := hrel
    have Hin : Hid (i ∉ l.take k) := hin
    by_cases hlt : k < l.length
    · obtain ⟨ad, rfl, hadB, hcell⟩ := hr.get k (by rw [ints_length]; exact hlt)
      obtain ⟨x, hx⟩ : ∃ x, x = l[k] := ⟨_, rfl⟩
      have hx2 : w.cell? (ad.add k) = some (.int .i64 x) := by rw [hcell, hx]; simp [ints]
      have hx3 : ∀ o, (w.alloc o).cell? (ad.add k) = some (.int .i64 x) := fun o => (World.cell?_alloc_lt _ _ _ (by rw [block_add]; omega)).trans hx2
      by_cases h1 : x = i
      · subst h1
        have Hx : Hid (bitsOf l x = true) := by unfold Hid bitsOf; rw [hx]; simp
        clear hcell hr hx2 hin hx
        go_wp2
        go_ret
        rw [Hx.out]
        exact ⟨rfl, (Below.refl _ _).alloc (Nat.le_refl _) _⟩
      · have Hx : Hid (l.take (k + 1) = l.take k ++ [x]) := by rw [hx, List.take_succ_eq_append_getElem hlt]; rfl
        have h2 : ((x : Int) == (i : Int)) = false := by rw [beq_eq_false_iff_ne]; omega
        clear hcell hr hx2 hin hx
        go_wp2
        go_round
        case rel =>
          refine ⟨k + 1, by omega, by go_num, ?_⟩
          rw [Hx.out]
          intro hy
          rcases List.mem_append.1 hy with hy | hy
          · exact Hin.out hy
          · simp at hy; omega
        case measure => simp [intOf]; omega
    · have hke : k = l.length := by omega
      subst hke
      have Hx : Hid (bitsOf l i = false) := by
        rw [List.take_length] at hin
        unfold Hid bitsOf
        simp [hin]
      clear hin hr
      go_wp2
      go_ret
      rw [Hx.out]
      exact ⟨rfl, (Below.refl _ _).alloc (Nat.le_refl _) _⟩
end Bv
end Go.Proofs.Ytjogehjgoemdpaa
