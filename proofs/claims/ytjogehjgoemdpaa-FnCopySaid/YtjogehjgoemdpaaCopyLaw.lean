/- FnCopy's walk. -/
import Derived.Test.YtjogehjgoemdpaaKit
import Derived.Test.YtjogehjgoemdpaaMixed
import Derived.Test.YtjogehjgoemdpaaCopyc
import Derived.Deep.DeepCutAuto
import Derived.Deep.RegionHeld3
namespace Go.Proofs.Ytjogehjgoemdpaa
open Go.RowKit
namespace Bv

set_option maxHeartbeats 3200000 in
theorem FnCopy_good (N : Nat) (A A' : Option Addr) (l l' : List Nat) (c c' : Nat) (w : World) (hr : Row w w.heap.size A (ints l)) (hr' : Row w w.heap.size A' (ints l')) (h1 : 1 ≤ N) (h2 : N ≤ 300) (hl : l.length ≤ 600) (hN : ∀ x ∈ l, x < N) (hl' : l'.length ≤ 600) (hN' : ∀ x ∈ l', x < N) :
    Calls Try.prog 8 #[.agg #[.int .i64 N, .slice A l.length c], .agg #[.int .i64 N, .slice A' l'.length c']] w fun e w' => e = .returned (.bool true) ∧ Below w.heap.size w w' := by
  have hol := on_le N (bitsOf l')
  go_enter Try.func8, Try.ntmps8
  go_wp2_with fail
  refine (Fits_yes N A l.length c _ (by omega)).mono ?_
  rintro e w1 ⟨rfl, hb⟩
  have a0 := cell_keep hb (p := ⟨w.heap.size, 0, none⟩) (v := .int .i64 N) (by go_simp)
  have a1 := cell_keep hb (p := ⟨w.heap.size, 1, none⟩) (v := .slice A l.length c) (by go_simp)
  have b0 := cell_keep hb (p := ⟨w.heap.size + 1, 0, none⟩) (v := .int .i64 N) (by go_simp)
  have b1 := cell_keep hb (p := ⟨w.heap.size + 1, 1, none⟩) (v := .slice A' l'.length c') (by go_simp)
  have hW1 := then_ (then_alloc (then_alloc (Below.refl w.heap.size w) _) _) hb
  clear hb
  go_wp2_with fail
  refine (Fits_yes N A' l'.length c' _ (by omega)).mono ?_
  rintro e w2 ⟨rfl, hb⟩
  replace a0 := cell_keep hb a0
  replace a1 := cell_keep hb a1
  replace b0 := cell_keep hb b0
  replace b1 := cell_keep hb b1
  have hW2 := then_ hW1 hb
  clear hb hW1
  go_upto_region 3 with fail
  go_cut [5, 6] (fun s5 s6 W => ∃ bx bY : Nat, s5 = .pointer (some ⟨bx, 0, none⟩) ∧ s6 = .pointer (some ⟨bY, 0, none⟩) ∧ W.cell? ⟨bx, 0, none⟩ = some (.int .i64 N) ∧ W.cell? ⟨bx, 1, none⟩ = some (.slice A l.length c) ∧ W.cell? ⟨bY, 0, none⟩ = some (.int .i64 N) ∧ W.cell? ⟨bY, 1, none⟩ = some (.slice A' l'.length c') ∧ Below w2.heap.size w2 W)
  case first =>
    have HS : Hid (∀ w', Below w2.heap.size w2 w' → w'.cell? ⟨w.heap.size, 0, none⟩ = some (.int .i64 N) ∧ w'.cell? ⟨w.heap.size, 1, none⟩ = some (.slice A l.length c) ∧ w'.cell? ⟨w.heap.size + 1, 0, none⟩ = some (.int .i64 N) ∧ w'.cell? ⟨w.heap.size + 1, 1, none⟩ = some (.slice A' l'.length c')) :=
      fun w' h => ⟨cell_keep h a0, cell_keep h a1, cell_keep h b0, cell_keep h b1⟩
    have hz := lt_cell b0
    have hz0 := lt_cell a0
    have tok : True := trivial
    clear hr hr' hW2
    go_region_held3 (fun w' => w'.cell? ⟨w.heap.size, 0, none⟩ = some (.int .i64 N) ∧ w'.cell? ⟨w.heap.size, 1, none⟩ = some (.slice A l.length c) ∧ w'.cell? ⟨w.heap.size + 1, 0, none⟩ = some (.int .i64 N) ∧ w'.cell? ⟨w.heap.size + 1, 1, none⟩ = some (.slice A' l'.length c'))
      (first
        | assumption
        | exact HS.out _ (by repeat' (first | exact Below.refl _ _ | refine Below.drew ?_ | refine then_alloc ?_ _ | refine Below.setCell ?_ (by simp) _)))
      (first
        | (go_at_call 21; have _t := tok; refine (conv_exact N A l.length c _).mono ?_; rintro e w3 ⟨rfl, rfl⟩; clear tok)
        | (go_at_call 21; refine (conv_exact N A' l'.length c' _).mono ?_; rintro e w4 ⟨rfl, rfl⟩))
    all_goals
      go_wp2_with fail
      go_meet
      refine ⟨_, _, rfl, rfl, by go_simp, by go_simp, by go_simp, by go_simp, ?_⟩
      repeat' (first | exact Below.refl _ _ | refine Below.drew ?_ | refine then_alloc ?_ _)
  obtain ⟨bx, bY, rfl, rfl, x0, x1, y0, y1, hb⟩ := hcut
  have a0 := cell_keep hb a0
  have a1 := cell_keep hb a1
  have b0 := cell_keep hb b0
  have b1 := cell_keep hb b1
  have hWc := then_ hW2 hb
  clear hb hW2
  go_wp2_with fail
  refine (sAlike_yes N A A' l l' c c' _ w.heap.size hWc.size (hr.below hWc) (hr'.below hWc) h1 h2 hl hN hl' hN').mono ?_
  rintro e w3 ⟨rfl, hb⟩
  have a0 := cell_keep hb a0
  have a1 := cell_keep hb a1
  have b0 := cell_keep hb b0
  have b1 := cell_keep hb b1
  have x0 := cell_keep hb x0
  have x1 := cell_keep hb x1
  have y0 := cell_keep hb y0
  have y1 := cell_keep hb y1
  have hW3 := then_ hWc hb
  clear hb hWc
  go_wp2_with fail
  refine (iCopy_any N A A' l l' c c' _ w.heap.size h1 h2 hW3.size (hr.below hW3) hl hN (hr'.below hW3) hl' hN').mono ?_
  rintro e w4 ⟨A4, c4, A5, c5, rfl, hr4, hb4⟩
  replace y0 := cell_keep hb4 y0
  replace y1 := cell_keep hb4 y1
  have hW4 := then_ hW3 hb4
  have hr' := hr'.below hW4
  clear hb4 hW3 a0 a1 b0 b1 x0 x1
  go_wp2_with fail
  refine (sTruths_any N A' l' c' _ w.heap.size h2 hW4.size hr' hl' hN').mono ?_
  rintro e w5 ⟨A6, c6, rfl, hr6, hb5⟩
  replace y0 := cell_keep hb5 y0
  replace y1 := cell_keep hb5 y1
  have hW5 := then_ hW4 hb5
  go_wp2_with fail
  refine (sBits_any N A6 (bitsOf l') c6 _ _ h2 (Nat.le_refl _) hr6).mono ?_
  rintro e w6 ⟨A7, c7, rfl, hr7, hb6⟩
  replace y0 := cell_keep hb6 y0
  replace y1 := cell_keep hb6 y1
  have hW6 := then_ hW5 hb6
  have hb56 := then_ hb5 hb6
  clear hW4 hW5
  go_wp2_with fail
  refine (sSame_yes A4 A7 _ c4 c7 _ _ _ hb56.size (Nat.le_refl _) (hr4.below hb56) hr7 (by omega)).mono ?_
  rintro e w7 ⟨rfl, hb7⟩
  replace y0 := cell_keep hb7 y0
  replace y1 := cell_keep hb7 y1
  have hW7 := then_ hW6 hb7
  clear hr4 hr6 hr7 hb5 hb6 hb56 hb7 hW6 hr hr'
  go_wp2_with fail
  go_ret
  exact ⟨rfl, hW7⟩

set_option maxHeartbeats 400000 in
theorem FnCopy_big1 (N N' : Int) (A A' : Option Addr) (n n' c c' : Nat) (w : World) (h : 2147483647 < n) :
    Calls Try.prog 8 #[.agg #[.int .i64 N, .slice A n c], .agg #[.int .i64 N', .slice A' n' c']] w fun e w' => e = .returned (.bool true) ∧ Below w.heap.size w w' := by
  go_enter Try.func8, Try.ntmps8
  go_wp2_with fail
  refine (Fits_no N A n c _ h).mono ?_
  rintro e w1 ⟨rfl, hb1⟩
  go_wp2_with fail
  go_ret
  exact ⟨rfl, then_ (then_alloc (then_alloc (Below.refl w.heap.size w) _) _) hb1⟩

set_option maxHeartbeats 400000 in
theorem FnCopy_big2 (N N' : Int) (A A' : Option Addr) (n n' c c' : Nat) (w : World) (h0 : n ≤ 2147483647) (h : 2147483647 < n') :
    Calls Try.prog 8 #[.agg #[.int .i64 N, .slice A n c], .agg #[.int .i64 N', .slice A' n' c']] w fun e w' => e = .returned (.bool true) ∧ Below w.heap.size w w' := by
  go_enter Try.func8, Try.ntmps8
  go_wp2_with fail
  refine (Fits_yes N A n c _ h0).mono ?_
  rintro e w1 ⟨rfl, hb⟩
  have b0 := cell_keep hb (p := ⟨w.heap.size + 1, 0, none⟩) (v := .int .i64 N') (by go_simp)
  have b1 := cell_keep hb (p := ⟨w.heap.size + 1, 1, none⟩) (v := .slice A' n' c') (by go_simp)
  have hW1 := then_ (then_alloc (then_alloc (Below.refl w.heap.size w) _) _) hb
  clear hb
  go_wp2_with fail
  refine (Fits_no N' A' n' c' _ h).mono ?_
  rintro e w2 ⟨rfl, hb⟩
  go_wp2_with fail
  go_ret
  exact ⟨rfl, then_ hW1 hb⟩

set_option maxHeartbeats 1600000 in
theorem FnCopy_bad (N N' : Int) (A A' : Option Addr) (l l' : List Int) (c c' : Nat) (w : World) (hr : Row w w.heap.size A (l.map (Value.int .i64))) (hr' : Row w w.heap.size A' (l'.map (Value.int .i64)))
    (hl : l.length ≤ 2147483647) (hl' : l'.length ≤ 2147483647) (hg : alikeB N N' l l' = false) :
    Calls Try.prog 8 #[.agg #[.int .i64 N, .slice A l.length c], .agg #[.int .i64 N', .slice A' l'.length c']] w fun e w' => e = .returned (.bool true) ∧ Below w.heap.size w w' := by
  have Hg := hide hg
  clear hg
  go_enter Try.func8, Try.ntmps8
  go_wp2_with fail
  refine (Fits_yes N A l.length c _ (by omega)).mono ?_
  rintro e w1 ⟨rfl, hb⟩
  have a0 := cell_keep hb (p := ⟨w.heap.size, 0, none⟩) (v := .int .i64 N) (by go_simp)
  have a1 := cell_keep hb (p := ⟨w.heap.size, 1, none⟩) (v := .slice A l.length c) (by go_simp)
  have b0 := cell_keep hb (p := ⟨w.heap.size + 1, 0, none⟩) (v := .int .i64 N') (by go_simp)
  have b1 := cell_keep hb (p := ⟨w.heap.size + 1, 1, none⟩) (v := .slice A' l'.length c') (by go_simp)
  have hW1 := then_ (then_alloc (then_alloc (Below.refl w.heap.size w) _) _) hb
  clear hb
  go_wp2_with fail
  refine (Fits_yes N' A' l'.length c' _ (by omega)).mono ?_
  rintro e w2 ⟨rfl, hb⟩
  replace a0 := cell_keep hb a0
  replace a1 := cell_keep hb a1
  replace b0 := cell_keep hb b0
  replace b1 := cell_keep hb b1
  have hW2 := then_ hW1 hb
  clear hb hW1
  go_upto_region 3 with fail
  go_cut [5, 6] (fun s5 s6 W => ∃ bx bY : Nat, s5 = .pointer (some ⟨bx, 0, none⟩) ∧ s6 = .pointer (some ⟨bY, 0, none⟩) ∧ W.cell? ⟨bx, 0, none⟩ = some (.int .i64 N) ∧ W.cell? ⟨bx, 1, none⟩ = some (.slice A l.length c) ∧ W.cell? ⟨bY, 0, none⟩ = some (.int .i64 N') ∧ W.cell? ⟨bY, 1, none⟩ = some (.slice A' l'.length c') ∧ Below w2.heap.size w2 W)
  case first =>
    have HS : Hid (∀ w', Below w2.heap.size w2 w' → w'.cell? ⟨w.heap.size, 0, none⟩ = some (.int .i64 N) ∧ w'.cell? ⟨w.heap.size, 1, none⟩ = some (.slice A l.length c) ∧ w'.cell? ⟨w.heap.size + 1, 0, none⟩ = some (.int .i64 N') ∧ w'.cell? ⟨w.heap.size + 1, 1, none⟩ = some (.slice A' l'.length c')) :=
      fun w' h => ⟨cell_keep h a0, cell_keep h a1, cell_keep h b0, cell_keep h b1⟩
    have hz := lt_cell b0
    have hz0 := lt_cell a0
    have tok : True := trivial
    clear hr hr' hW2
    go_region_held3 (fun w' => w'.cell? ⟨w.heap.size, 0, none⟩ = some (.int .i64 N) ∧ w'.cell? ⟨w.heap.size, 1, none⟩ = some (.slice A l.length c) ∧ w'.cell? ⟨w.heap.size + 1, 0, none⟩ = some (.int .i64 N') ∧ w'.cell? ⟨w.heap.size + 1, 1, none⟩ = some (.slice A' l'.length c'))
      (first
        | assumption
        | exact HS.out _ (by repeat' (first | exact Below.refl _ _ | refine Below.drew ?_ | refine then_alloc ?_ _ | refine Below.setCell ?_ (by simp) _)))
      (first
        | (go_at_call 21; have _t := tok; refine (conv_exact N A l.length c _).mono ?_; rintro e w3 ⟨rfl, rfl⟩; clear tok)
        | (go_at_call 21; refine (conv_exact N' A' l'.length c' _).mono ?_; rintro e w4 ⟨rfl, rfl⟩))
    all_goals
      go_wp2_with fail
      go_meet
      refine ⟨_, _, rfl, rfl, by go_simp, by go_simp, by go_simp, by go_simp, ?_⟩
      repeat' (first | exact Below.refl _ _ | refine Below.drew ?_ | refine then_alloc ?_ _)
  obtain ⟨bx, bY, rfl, rfl, x0, x1, y0, y1, hb⟩ := hcut
  have a0 := cell_keep hb a0
  have a1 := cell_keep hb a1
  have b0 := cell_keep hb b0
  have b1 := cell_keep hb b1
  have hWc := then_ hW2 hb
  clear hb hW2
  go_wp2_with fail
  refine (sAlike_no N N' A A' l l' c c' _ w.heap.size hWc.size (hr.below hWc) (hr'.below hWc) hl hl' Hg.out).mono ?_
  rintro e w3 ⟨rfl, hb⟩
  have hW3 := then_ hWc hb
  clear hb hWc a0 a1 b0 b1 x0 x1 y0 y1 hr hr'
  go_wp2_with fail
  go_ret
  exact ⟨rfl, hW3⟩

theorem FnCopy_walk (N N' : Int) (A A' : Option Addr) (l l' : List Int) (c c' : Nat) (w : World) (hr : Row w w.heap.size A (l.map (Value.int .i64))) (hr' : Row w w.heap.size A' (l'.map (Value.int .i64))) :
    Calls Try.prog 8 #[.agg #[.int .i64 N, .slice A l.length c], .agg #[.int .i64 N', .slice A' l'.length c']] w fun e w' => e = .returned (.bool true) ∧ Below w.heap.size w w' := by
  by_cases hl : l.length ≤ 2147483647
  · by_cases hl' : l'.length ≤ 2147483647
    · cases hg : alikeB N N' l l' with
      | false => exact FnCopy_bad N N' A A' l l' c c' w hr hr' hl hl' hg
      | true =>
        unfold alikeB at hg
        simp only [Bool.and_eq_true, decide_eq_true_eq] at hg
        obtain ⟨g1, g2, rfl⟩ := hg
        obtain ⟨M, m, rfl, rfl, h1, h2, h3, h4⟩ := goodB_open g1
        obtain ⟨M', m', e1, rfl, _, _, h3', h4'⟩ := goodB_open g2
        obtain rfl : M = M' := by omega
        rw [ints_cast] at hr hr'
        rw [List.length_map, List.length_map]
        exact FnCopy_good M A A' m m' c c' w hr hr' h1 h2 h3 h4 h3' h4'
    · exact FnCopy_big2 N N' A A' l.length l'.length c c' w hl (by omega)
  · exact FnCopy_big1 N N' A A' l.length l'.length c c' w (by omega)
end Bv
end Go.Proofs.Ytjogehjgoemdpaa
