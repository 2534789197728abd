/- FnSet's walk. -/
import Derived.Test.YtjogehjgoemdpaaKit
namespace Go.Proofs.Ytjogehjgoemdpaa
open Go.RowKit
namespace Bv

set_option maxHeartbeats 1600000 in
theorem FnSet_good (N i : Nat) (A : Option Addr) (l : List Nat) (c : Nat) (w : World) (hr : Row w w.heap.size A (ints l)) (h1 : 1 ≤ N) (h2 : N ≤ 300) (hl : l.length ≤ 600) (hN : ∀ x ∈ l, x < N) (hi : i < N) :
    Calls Try.prog 7 #[.agg #[.int .i64 N, .slice A l.length c], .int .i64 i] w fun e w' => e = .returned (.bool true) ∧ Below w.heap.size w w' := by
  go_enter Try.func7, Try.ntmps7
  go_wp2_with fail
  refine (Fits_yes N A l.length c _ (by omega)).mono ?_
  rintro e w1 ⟨rfl, hb1⟩
  have v0 := cell_keep hb1 (p := ⟨w.heap.size, 0, none⟩) (v := .int .i64 N) (by go_simp)
  have v1 := cell_keep hb1 (p := ⟨w.heap.size, 1, none⟩) (v := .slice A l.length c) (by go_simp)
  have hW1 := then_ (then_alloc (Below.refl w.heap.size w) _) hb1
  clear hb1
  go_wp2_with fail
  refine (conv_any N A l.length c _).mono ?_
  rintro e w2 ⟨rfl, hb2⟩
  replace v0 := cell_keep hb2 v0
  replace v1 := cell_keep hb2 v1
  have hW2 := then_ hW1 hb2
  have hz := lt_cell v0
  clear hb2 hW1
  go_wp2_with fail
  refine (sGood_yes N A l c _ w.heap.size (by simp; omega) (hr.below (then_alloc hW2 _)) h1 h2 hl hN).mono ?_
  rintro e w3 ⟨rfl, hb3⟩
  have x0 := cell_keep hb3 (p := ⟨w2.heap.size, 0, none⟩) (v := .int .i64 N) (by go_simp)
  have x1 := cell_keep hb3 (p := ⟨w2.heap.size, 1, none⟩) (v := .slice A l.length c) (by go_simp)
  replace v0 := cell_keep hb3 (p := ⟨w.heap.size, 0, none⟩) (v := .int .i64 N) (by go_simp)
  replace v1 := cell_keep hb3 (p := ⟨w.heap.size, 1, none⟩) (v := .slice A l.length c) (by go_simp)
  have hW3 := then_ (then_alloc hW2 _) hb3
  have hW2s : w2.heap.size < w3.heap.size := lt_cell x0
  have hW2t : w.heap.size < w3.heap.size := lt_cell v0
  clear hb3 hW2 hz
  go_wp2_with fail
  refine (sTruths_row N A l c _ w.heap.size h2 hW3.size (hr.below hW3) hl hN).mono ?_
  rintro e w4 ⟨g4, rfl, hg4, hrow4, hb⟩
  replace v0 := cell_keep hb v0
  replace v1 := cell_keep hb v1
  replace x0 := cell_keep hb x0
  replace x1 := cell_keep hb x1
  have hW4 := then_ hW3 hb
  have s3 := hW3.size
  clear hb
  have hc4 := hrow4.cell hi
  have hf4 := hrow4.frozen i
  have Hrow4 := hide hrow4
  have b1 := lt_cell x0
  have hx2 := hW2s
  clear hrow4
  go_wp2_with fail
  generalize hW : w4.setCell ⟨g4, i, none⟩ (.bool true) = W
  have ho : Only w4 W g4 0 N := by rw [← hW]; exact Only.setCell w4 g4 0 N i _ (by omega)
  have hrow5 : W.rowIs g4 4 N (fun j => .bool (upd (bitsOf l) i true j)) := by
    rw [← hW]
    refine (Hrow4.out.set i (.bool true)).congr fun j _ => ?_
    unfold upd
    split <;> rfl
  have hz4 : w.heap.size < g4 := by omega
  have hz5 : w2.heap.size < g4 := by omega
  replace v0 := far_cell ho v0 (by omega)
  replace v1 := far_cell ho v1 (by omega)
  replace x0 := far_cell ho x0 (by omega)
  replace x1 := far_cell ho x1 (by omega)
  have hW5 := Wrote.below hW4 ho (by omega)
  have hr5 := row_of_rowIs hrow5
  clear hW ho hc4 hf4 Hrow4 hrow5 hW4 hW3
  refine (iSet_any N A l c i _ w.heap.size h2 hW5.size (hr.below hW5) hl hN hi).mono ?_
  rintro e w6 ⟨A6, c6, rfl, hr6, hb⟩
  replace v0 := cell_keep hb v0
  replace v1 := cell_keep hb v1
  replace x0 := cell_keep hb x0
  replace x1 := cell_keep hb x1
  have hW6 := then_ hW5 hb
  replace hr5 := hr5.below hb
  have s6 := hb.size
  clear hb hW5
  go_wp2_with fail
  refine (sBits_any N (some ⟨g4, 0, none⟩) (upd (bitsOf l) i true) N _ _ h2 s6 hr5).mono ?_
  rintro e w7 ⟨A7, c7, rfl, hr7, hb⟩
  have hW7 := then_ hW6 hb
  replace hr6 := hr6.below hb
  have s7 := hb.size
  have hol := on_le N (upd (bitsOf l) i true)
  clear hb hW6 hr5
  go_wp2_with fail
  refine (sSame_yes A6 A7 _ c6 c7 _ _ _ s7 (Nat.le_refl _) hr6 hr7 (by omega)).mono ?_
  rintro e w8 ⟨rfl, hb⟩
  have hW8 := then_ hW7 hb
  clear hb hW7 hr7 hr6
  go_wp2_with fail
  go_ret
  exact ⟨rfl, hW8⟩

set_option maxHeartbeats 400000 in
theorem FnSet_big (N i : Int) (A : Option Addr) (n c : Nat) (w : World) (h : 2147483647 < n) :
    Calls Try.prog 7 #[.agg #[.int .i64 N, .slice A n c], .int .i64 i] w fun e w' => e = .returned (.bool true) ∧ Below w.heap.size w w' := by
  go_enter Try.func7, Try.ntmps7
  go_wp2_with fail
  refine (Fits_no N A n c _ h).mono ?_
  rintro e w1 ⟨rfl, hb1⟩
  go_wp2_with fail
  go_ret
  exact ⟨rfl, then_ (then_alloc (Below.refl w.heap.size w) _) hb1⟩

set_option maxHeartbeats 800000 in
theorem FnSet_bad (N i : Int) (A : Option Addr) (l : List Int) (c : Nat) (w : World) (hr : Row w w.heap.size A (l.map (Value.int .i64))) (hl : l.length ≤ 2147483647) (hg : goodB N l = false) :
    Calls Try.prog 7 #[.agg #[.int .i64 N, .slice A l.length c], .int .i64 i] w fun e w' => e = .returned (.bool true) ∧ Below w.heap.size w w' := by
  have Hg := hide hg
  clear hg
  go_enter Try.func7, Try.ntmps7
  go_wp2_with fail
  refine (Fits_yes N A l.length c _ (by omega)).mono ?_
  rintro e w1 ⟨rfl, hb1⟩
  have v0 := cell_keep hb1 (p := ⟨w.heap.size, 0, none⟩) (v := .int .i64 N) (by go_simp)
  have v1 := cell_keep hb1 (p := ⟨w.heap.size, 1, none⟩) (v := .slice A l.length c) (by go_simp)
  have hW1 := then_ (then_alloc (Below.refl w.heap.size w) _) hb1
  clear hb1
  go_wp2_with fail
  refine (conv_any N A l.length c _).mono ?_
  rintro e w2 ⟨rfl, hb2⟩
  replace v0 := cell_keep hb2 v0
  replace v1 := cell_keep hb2 v1
  have hW2 := then_ hW1 hb2
  have hz := lt_cell v0
  clear hb2 hW1
  go_wp2_with fail
  refine (sGood_no N A l c _ w.heap.size (by simp; omega) (hr.below (then_alloc hW2 _)) hl Hg.out).mono ?_
  rintro e w3 ⟨rfl, hb3⟩
  have hW3 := then_ (then_alloc hW2 _) hb3
  clear hb3 hW2 hz v0 v1
  go_wp2_with fail
  go_ret
  exact ⟨rfl, hW3⟩

set_option maxHeartbeats 800000 in
theorem FnSet_out (N : Nat) (i : Int) (A : Option Addr) (l : List Nat) (c : Nat) (w : World) (hr : Row w w.heap.size A (ints l)) (h1 : 1 ≤ N) (h2 : N ≤ 300) (hl : l.length ≤ 600) (hN : ∀ x ∈ l, x < N) (hi : i < 0 ∨ N ≤ i) :
    Calls Try.prog 7 #[.agg #[.int .i64 N, .slice A l.length c], .int .i64 i] w fun e w' => e = .returned (.bool true) ∧ Below w.heap.size w w' := by
  have Hi := hide hi
  clear hi
  go_enter Try.func7, Try.ntmps7
  go_wp2_with fail
  refine (Fits_yes N A l.length c _ (by omega)).mono ?_
  rintro e w1 ⟨rfl, hb1⟩
  have v0 := cell_keep hb1 (p := ⟨w.heap.size, 0, none⟩) (v := .int .i64 N) (by go_simp)
  have v1 := cell_keep hb1 (p := ⟨w.heap.size, 1, none⟩) (v := .slice A l.length c) (by go_simp)
  have hW1 := then_ (then_alloc (Below.refl w.heap.size w) _) hb1
  clear hb1
  go_wp2_with fail
  refine (conv_any N A l.length c _).mono ?_
  rintro e w2 ⟨rfl, hb2⟩
  replace v0 := cell_keep hb2 v0
  replace v1 := cell_keep hb2 v1
  have hW2 := then_ hW1 hb2
  have hz := lt_cell v0
  clear hb2 hW1
  go_wp2_with fail
  refine (sGood_yes N A l c _ w.heap.size (by simp; omega) (hr.below (then_alloc hW2 _)) h1 h2 hl hN).mono ?_
  rintro e w3 ⟨rfl, hb3⟩
  have x0 := cell_keep hb3 (p := ⟨w2.heap.size, 0, none⟩) (v := .int .i64 N) (by go_simp)
  have x1 := cell_keep hb3 (p := ⟨w2.heap.size, 1, none⟩) (v := .slice A l.length c) (by go_simp)
  have hW3 := then_ (then_alloc hW2 _) hb3
  clear hb3 hW2 hz v0 v1
  rcases Hi.out with h | h
  · go_wp2_with fail
    go_ret
    exact ⟨rfl, hW3⟩
  · have h0 : ¬ i < 0 := by omega
    go_wp2_with fail
    go_ret
    exact ⟨rfl, hW3⟩

theorem FnSet_walk (N i : Int) (A : Option Addr) (l : List Int) (c : Nat) (w : World) (hr : Row w w.heap.size A (l.map (Value.int .i64))) :
    Calls Try.prog 7 #[.agg #[.int .i64 N, .slice A l.length c], .int .i64 i] w fun e w' => e = .returned (.bool true) ∧ Below w.heap.size w w' := by
  by_cases hl : l.length ≤ 2147483647
  · cases hg : goodB N l with
    | false => exact FnSet_bad N i A l c w hr hl hg
    | true =>
      obtain ⟨M, m, rfl, rfl, h1, h2, h3, h4⟩ := goodB_open hg
      rw [ints_cast] at hr
      rw [List.length_map]
      by_cases hi : i < 0 ∨ M ≤ i
      · exact FnSet_out M i A m c w hr h1 h2 h3 h4 hi
      · obtain ⟨j, rfl⟩ := Int.eq_ofNat_of_zero_le (show 0 ≤ i by omega)
        exact FnSet_good M j A m c w hr h1 h2 h3 h4 (by omega)
  · exact FnSet_big N i A l.length c w (by omega)
end Bv
end Go.Proofs.Ytjogehjgoemdpaa
