/- FnClear's walk. -/
import Derived.Test.YtjogehjgoemdpaaKit
import Derived.Test.YtjogehjgoemdpaaMixed
namespace Go.Proofs.Ytjogehjgoemdpaa
open Go.RowKit
namespace Bv

set_option maxHeartbeats 1600000 in
theorem FnClear_good (N : Nat) (A : Option Addr) (l : List Nat) (c : Nat) (w : World) (hr : Row w w.heap.size A (ints l)) (h1 : 1 ≤ N) (h2 : N ≤ 300) (hl : l.length ≤ 600) (hN : ∀ x ∈ l, x < N) :
    Calls Try.prog 12 #[.agg #[.int .i64 N, .slice A l.length c]] w fun e w' => e = .returned (.bool true) ∧ Below w.heap.size w w' := by
  have f0 : (((l.length : Int) == 0) = true ∧ (l.length == 0) = true) ∨ (((l.length : Int) == 0) = false ∧ (l.length == 0) = false) := by
    by_cases h : l.length = 0
    · exact .inl ⟨by rw [beq_iff_eq]; omega, by rw [beq_iff_eq]; exact h⟩
    · exact .inr ⟨by rw [beq_eq_false_iff_ne]; omega, by rw [beq_eq_false_iff_ne]; exact h⟩
  have F0 := hide f0
  clear f0
  go_enter Try.func12, Try.ntmps12
  go_wp2_with fail
  refine (Fits_yes N A l.length c _ (by omega)).mono ?_
  rintro e w1 ⟨rfl, hb1⟩
  have v0 := cell_keep hb1 (p := ⟨w.heap.size, 0, none⟩) (v := .int .i64 N) (by go_simp)
  have v1 := cell_keep hb1 (p := ⟨w.heap.size, 1, none⟩) (v := .slice A l.length c) (by go_simp)
  have hW1 := then_ (then_alloc (Below.refl w.heap.size w) _) hb1
  clear hb1
  go_wp2_with fail
  refine (conv_any N A l.length c _).mono ?_
  rintro e w2 ⟨rfl, hb2⟩
  replace v0 := cell_keep hb2 v0
  replace v1 := cell_keep hb2 v1
  have hW2 := then_ hW1 hb2
  have hz := lt_cell v0
  clear hb2 hW1
  go_wp2_with fail
  refine (sGood_yes N A l c _ w.heap.size (by simp; omega) (hr.below (then_alloc hW2 _)) h1 h2 hl hN).mono ?_
  rintro e w3 ⟨rfl, hb3⟩
  have x0 := cell_keep hb3 (p := ⟨w2.heap.size, 0, none⟩) (v := .int .i64 N) (by go_simp)
  have x1 := cell_keep hb3 (p := ⟨w2.heap.size, 1, none⟩) (v := .slice A l.length c) (by go_simp)
  replace v0 := cell_keep hb3 (p := ⟨w.heap.size, 0, none⟩) (v := .int .i64 N) (by go_simp)
  replace v1 := cell_keep hb3 (p := ⟨w.heap.size, 1, none⟩) (v := .slice A l.length c) (by go_simp)
  have hW3 := then_ (then_alloc hW2 _) hb3
  clear hb3 hW2 hz
  go_wp2_with fail
  refine (iClear_list N A l c _ w.heap.size h1 h2 hW3.size (hr.below hW3) hl hN).mono ?_
  rintro e w4 ⟨⟨A4, c4, rfl⟩, hb⟩
  replace v0 := cell_keep hb v0
  replace v1 := cell_keep hb v1
  replace x0 := cell_keep hb x0
  replace x1 := cell_keep hb x1
  have hW4 := then_ hW3 hb
  clear hb hW3
  go_wp2_with fail
  have HS : Hid (∀ w', Below w4.heap.size w4 w' → w'.cell? ⟨w.heap.size, 0, none⟩ = some (.int .i64 N) ∧ w'.cell? ⟨w.heap.size, 1, none⟩ = some (.slice A l.length c) ∧ w'.cell? ⟨w2.heap.size, 0, none⟩ = some (.int .i64 N) ∧ w'.cell? ⟨w2.heap.size, 1, none⟩ = some (.slice A l.length c) ∧ Below w4.heap.size w4 w') :=
    fun w' h => ⟨cell_keep h v0, cell_keep h v1, cell_keep h x0, cell_keep h x1, h⟩
  have HR : Hid (∀ w', Below w4.heap.size w4 w' → Row w' w.heap.size A (ints l)) := fun w' h => hr.below (then_ hW4 h)
  have HB : Hid (∀ w', Below w4.heap.size w4 w' → w.heap.size ≤ w'.heap.size) := fun w' h => (then_ hW4 h).size
  clear hr
  rcases F0.out with ⟨e1, e2⟩ | ⟨e1, e2⟩
  · go_region_held3 (fun w' => w'.cell? ⟨w.heap.size, 0, none⟩ = some (.int .i64 N) ∧ w'.cell? ⟨w.heap.size, 1, none⟩ = some (.slice A l.length c) ∧ w'.cell? ⟨w2.heap.size, 0, none⟩ = some (.int .i64 N) ∧ w'.cell? ⟨w2.heap.size, 1, none⟩ = some (.slice A l.length c) ∧ Below w4.heap.size w4 w')
      (first
        | assumption
        | exact HS.out _ (Below.refl _ _).drew
        | (go_split_ands; exact HS.out _ (next_ ‹_› ‹_›)))
      (first
        | (go_at_call 25; go_split_ands; refine (iIsEmpty_list N A l c _ w.heap.size h2 (HB.out _ ‹_›) (HR.out _ ‹_›) hl hN).mono ?_; rintro e w5 ⟨rfl, hb5⟩))
    go_wp2
    go_ret
    exact ⟨rfl, then_ hW4 (by go_split_ands; assumption)⟩
  · go_region_held3 (fun w' => w'.cell? ⟨w.heap.size, 0, none⟩ = some (.int .i64 N) ∧ w'.cell? ⟨w.heap.size, 1, none⟩ = some (.slice A l.length c) ∧ w'.cell? ⟨w2.heap.size, 0, none⟩ = some (.int .i64 N) ∧ w'.cell? ⟨w2.heap.size, 1, none⟩ = some (.slice A l.length c) ∧ Below w4.heap.size w4 w')
      (first
        | assumption
        | exact HS.out _ (Below.refl _ _).drew
        | (go_split_ands; exact HS.out _ (next_ ‹_› ‹_›)))
      (first
        | (go_at_call 25; go_split_ands; refine (iIsEmpty_list N A l c _ w.heap.size h2 (HB.out _ ‹_›) (HR.out _ ‹_›) hl hN).mono ?_; rintro e w5 ⟨rfl, hb5⟩))
    go_wp2
    go_ret
    exact ⟨rfl, then_ hW4 (by go_split_ands; assumption)⟩

set_option maxHeartbeats 400000 in
theorem FnClear_big (N : Int) (A : Option Addr) (n c : Nat) (w : World) (h : 2147483647 < n) :
    Calls Try.prog 12 #[.agg #[.int .i64 N, .slice A n c]] w fun e w' => e = .returned (.bool true) ∧ Below w.heap.size w w' := by
  go_enter Try.func12, Try.ntmps12
  go_wp2_with fail
  refine (Fits_no N A n c _ h).mono ?_
  rintro e w1 ⟨rfl, hb1⟩
  go_wp2_with fail
  go_ret
  exact ⟨rfl, then_ (then_alloc (Below.refl w.heap.size w) _) hb1⟩

set_option maxHeartbeats 800000 in
theorem FnClear_bad (N : Int) (A : Option Addr) (l : List Int) (c : Nat) (w : World) (hr : Row w w.heap.size A (l.map (Value.int .i64))) (hl : l.length ≤ 2147483647) (hg : goodB N l = false) :
    Calls Try.prog 12 #[.agg #[.int .i64 N, .slice A l.length c]] w fun e w' => e = .returned (.bool true) ∧ Below w.heap.size w w' := by
  have Hg := hide hg
  clear hg
  go_enter Try.func12, Try.ntmps12
  go_wp2_with fail
  refine (Fits_yes N A l.length c _ (by omega)).mono ?_
  rintro e w1 ⟨rfl, hb1⟩
  have v0 := cell_keep hb1 (p := ⟨w.heap.size, 0, none⟩) (v := .int .i64 N) (by go_simp)
  have v1 := cell_keep hb1 (p := ⟨w.heap.size, 1, none⟩) (v := .slice A l.length c) (by go_simp)
  have hW1 := then_ (then_alloc (Below.refl w.heap.size w) _) hb1
  clear hb1
  go_wp2_with fail
  refine (conv_any N A l.length c _).mono ?_
  rintro e w2 ⟨rfl, hb2⟩
  replace v0 := cell_keep hb2 v0
  replace v1 := cell_keep hb2 v1
  have hW2 := then_ hW1 hb2
  have hz := lt_cell v0
  clear hb2 hW1
  go_wp2_with fail
  refine (sGood_no N A l c _ w.heap.size (by simp; omega) (hr.below (then_alloc hW2 _)) hl Hg.out).mono ?_
  rintro e w3 ⟨rfl, hb3⟩
  have hW3 := then_ (then_alloc hW2 _) hb3
  clear hb3 hW2 hz v0 v1
  go_wp2_with fail
  go_ret
  exact ⟨rfl, hW3⟩

theorem FnClear_walk (N : Int) (A : Option Addr) (l : List Int) (c : Nat) (w : World) (hr : Row w w.heap.size A (l.map (Value.int .i64))) :
    Calls Try.prog 12 #[.agg #[.int .i64 N, .slice A l.length c]] w fun e w' => e = .returned (.bool true) ∧ Below w.heap.size w w' := by
  by_cases hl : l.length ≤ 2147483647
  · cases hg : goodB N l with
    | false => exact FnClear_bad N A l c w hr hl hg
    | true =>
      obtain ⟨M, m, rfl, rfl, h1, h2, h3, h4⟩ := goodB_open hg
      rw [ints_cast] at hr
      rw [List.length_map]
      exact FnClear_good M A m c w hr h1 h2 h3 h4
  · exact FnClear_big N A l.length c w (by omega)
end Bv
end Go.Proofs.Ytjogehjgoemdpaa
