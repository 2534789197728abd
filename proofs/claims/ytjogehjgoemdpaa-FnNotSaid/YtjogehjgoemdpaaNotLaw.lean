/- FnNot's walk. -/
import Derived.Test.YtjogehjgoemdpaaKit
import Derived.Test.YtjogehjgoemdpaaMixed
namespace Go.Proofs.Ytjogehjgoemdpaa
open Go.RowKit
namespace Bv

set_option maxHeartbeats 1600000 in
theorem FnNot_good (N : Nat) (A : Option Addr) (l : List Nat) (c : Nat) (w : World) (hr : Row w w.heap.size A (ints l)) (h1 : 1 ≤ N) (h2 : N ≤ 300) (hl : l.length ≤ 600) (hN : ∀ x ∈ l, x < N) :
    Calls Try.prog 13 #[.agg #[.int .i64 N, .slice A l.length c]] w fun e w' => e = .returned (.bool true) ∧ Below w.heap.size w w' := by
  go_enter Try.func13, Try.ntmps13
  go_wp2_with fail
  refine (Fits_yes N A l.length c _ (by omega)).mono ?_
  rintro e w1 ⟨rfl, hb1⟩
  have v0 := cell_keep hb1 (p := ⟨w.heap.size, 0, none⟩) (v := .int .i64 N) (by go_simp)
  have v1 := cell_keep hb1 (p := ⟨w.heap.size, 1, none⟩) (v := .slice A l.length c) (by go_simp)
  have hW1 := then_ (then_alloc (Below.refl w.heap.size w) _) hb1
  clear hb1
  go_wp2_with fail
  refine (conv_any N A l.length c _).mono ?_
  rintro e w2 ⟨rfl, hb2⟩
  replace v0 := cell_keep hb2 v0
  replace v1 := cell_keep hb2 v1
  have hW2 := then_ hW1 hb2
  have hz := lt_cell v0
  clear hb2 hW1
  go_wp2_with fail
  refine (sGood_yes N A l c _ w.heap.size (by simp; omega) (hr.below (then_alloc hW2 _)) h1 h2 hl hN).mono ?_
  rintro e w3 ⟨rfl, hb3⟩
  have x0 := cell_keep hb3 (p := ⟨w2.heap.size, 0, none⟩) (v := .int .i64 N) (by go_simp)
  have x1 := cell_keep hb3 (p := ⟨w2.heap.size, 1, none⟩) (v := .slice A l.length c) (by go_simp)
  replace v0 := cell_keep hb3 (p := ⟨w.heap.size, 0, none⟩) (v := .int .i64 N) (by go_simp)
  replace v1 := cell_keep hb3 (p := ⟨w.heap.size, 1, none⟩) (v := .slice A l.length c) (by go_simp)
  have hW3 := then_ (then_alloc hW2 _) hb3
  clear hb3 hW2 hz
  go_wp2_with fail
  refine (iNot_list N A l c _ w.heap.size h1 h2 hW3.size (hr.below hW3) hl hN).mono ?_
  rintro e w4 ⟨A4, c4, rfl, hr4, hb⟩
  replace v0 := cell_keep hb v0
  replace v1 := cell_keep hb v1
  replace x0 := cell_keep hb x0
  replace x1 := cell_keep hb x1
  have hW4 := then_ hW3 hb
  clear hb hW3
  go_wp2_with fail
  refine (sTruths_any N A l c _ w.heap.size h2 hW4.size (hr.below hW4) hl hN).mono ?_
  rintro e w5 ⟨A5, c5, rfl, hr5, hb⟩
  have hW5 := then_ hW4 hb
  have s5 := hb.size
  replace hr4 := hr4.below hb
  clear hb hW4
  go_wp2_with fail
  refine (sTurned_any N A5 (bitsOf l) c5 _ _ h2 (Nat.le_refl _) hr5).mono ?_
  rintro e w6 ⟨A6, c6, rfl, hr6, hb⟩
  have hW6 := then_ hW5 hb
  have s6 := hb.size
  replace hr4 := hr4.below (hb.mono s5)
  clear hb hW5 hr5
  go_wp2_with fail
  refine (sBits_any N A6 (fun i => !bitsOf l i) c6 _ _ h2 (Nat.le_refl _) hr6).mono ?_
  rintro e w7 ⟨A7, c7, rfl, hr7, hb⟩
  have hW7 := then_ hW6 hb
  have s7 := hb.size
  replace hr4 := hr4.below (hb.mono (Nat.le_trans s5 s6))
  have hol := on_le N (fun i => !bitsOf l i)
  clear hb hW6 hr6
  go_wp2_with fail
  refine (sSame_yes A4 A7 _ c4 c7 _ _ _ (Nat.le_trans s5 (Nat.le_trans s6 s7)) (Nat.le_refl _) hr4 hr7 (by omega)).mono ?_
  rintro e w8 ⟨rfl, hb⟩
  have hW8 := then_ hW7 hb
  clear hb hW7 hr7 hr4
  go_wp2_with fail
  go_ret
  exact ⟨rfl, hW8⟩

set_option maxHeartbeats 400000 in
theorem FnNot_big (N : Int) (A : Option Addr) (n c : Nat) (w : World) (h : 2147483647 < n) :
    Calls Try.prog 13 #[.agg #[.int .i64 N, .slice A n c]] w fun e w' => e = .returned (.bool true) ∧ Below w.heap.size w w' := by
  go_enter Try.func13, Try.ntmps13
  go_wp2_with fail
  refine (Fits_no N A n c _ h).mono ?_
  rintro e w1 ⟨rfl, hb1⟩
  go_wp2_with fail
  go_ret
  exact ⟨rfl, then_ (then_alloc (Below.refl w.heap.size w) _) hb1⟩

set_option maxHeartbeats 800000 in
theorem FnNot_bad (N : Int) (A : Option Addr) (l : List Int) (c : Nat) (w : World) (hr : Row w w.heap.size A (l.map (Value.int .i64))) (hl : l.length ≤ 2147483647) (hg : goodB N l = false) :
    Calls Try.prog 13 #[.agg #[.int .i64 N, .slice A l.length c]] w fun e w' => e = .returned (.bool true) ∧ Below w.heap.size w w' := by
  have Hg := hide hg
  clear hg
  go_enter Try.func13, Try.ntmps13
  go_wp2_with fail
  refine (Fits_yes N A l.length c _ (by omega)).mono ?_
  rintro e w1 ⟨rfl, hb1⟩
  have v0 := cell_keep hb1 (p := ⟨w.heap.size, 0, none⟩) (v := .int .i64 N) (by go_simp)
  have v1 := cell_keep hb1 (p := ⟨w.heap.size, 1, none⟩) (v := .slice A l.length c) (by go_simp)
  have hW1 := then_ (then_alloc (Below.refl w.heap.size w) _) hb1
  clear hb1
  go_wp2_with fail
  refine (conv_any N A l.length c _).mono ?_
  rintro e w2 ⟨rfl, hb2⟩
  replace v0 := cell_keep hb2 v0
  replace v1 := cell_keep hb2 v1
  have hW2 := then_ hW1 hb2
  have hz := lt_cell v0
  clear hb2 hW1
  go_wp2_with fail
  refine (sGood_no N A l c _ w.heap.size (by simp; omega) (hr.below (then_alloc hW2 _)) hl Hg.out).mono ?_
  rintro e w3 ⟨rfl, hb3⟩
  have hW3 := then_ (then_alloc hW2 _) hb3
  clear hb3 hW2 hz v0 v1
  go_wp2_with fail
  go_ret
  exact ⟨rfl, hW3⟩

theorem FnNot_walk (N : Int) (A : Option Addr) (l : List Int) (c : Nat) (w : World) (hr : Row w w.heap.size A (l.map (Value.int .i64))) :
    Calls Try.prog 13 #[.agg #[.int .i64 N, .slice A l.length c]] w fun e w' => e = .returned (.bool true) ∧ Below w.heap.size w w' := by
  by_cases hl : l.length ≤ 2147483647
  · cases hg : goodB N l with
    | false => exact FnNot_bad N A l c w hr hl hg
    | true =>
      obtain ⟨M, m, rfl, rfl, h1, h2, h3, h4⟩ := goodB_open hg
      rw [ints_cast] at hr
      rw [List.length_map]
      exact FnNot_good M A m c w hr h1 h2 h3 h4
  · exact FnNot_big N A l.length c w (by omega)
end Bv
end Go.Proofs.Ytjogehjgoemdpaa
