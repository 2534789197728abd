/- FnCountBoth's walk. -/
import Derived.Test.YtjogehjgoemdpaaKit
import Derived.Test.YtjogehjgoemdpaaMixed
import Derived.Deep.DeepCutAuto
import Derived.Deep.RegionHeld3
namespace Go.Proofs.Ytjogehjgoemdpaa
open Go.RowKit
namespace Bv

set_option maxHeartbeats 3200000 in
theorem FnCountBoth_good (N : Nat) (A A' : Option Addr) (l l' : List Nat) (c c' : Nat) (w : World) (hr : Row w w.heap.size A (ints l)) (hr' : Row w w.heap.size A' (ints l')) (h1 : 1 ≤ N) (h2 : N ≤ 300) (hl : l.length ≤ 600) (hN : ∀ x ∈ l, x < N) (hl' : l'.length ≤ 600) (hN' : ∀ x ∈ l', x < N) :
    Calls Try.prog 16 #[.agg #[.int .i64 N, .slice A l.length c], .agg #[.int .i64 N, .slice A' l'.length c']] w fun e w' => e = .returned (.bool true) ∧ Below w.heap.size w w' := by
  have hol := on_le N (bitsOf l)
  have hol' := on_le N (bitsOf l')
  have hoa := on_le N (fun i => bitsOf l i && bitsOf l' i)
  have hoo := on_le N (fun i => bitsOf l i || bitsOf l' i)
  have hbo := hide (on_both N (bitsOf l) (bitsOf l'))
  have tokA : True := trivial
  go_enter Try.func16, Try.ntmps16
  go_wp2_with fail
  refine (Fits_yes N A l.length c _ (by omega)).mono ?_
  rintro e w1 ⟨rfl, hb⟩
  have a0 := cell_keep hb (p := ⟨w.heap.size, 0, none⟩) (v := .int .i64 N) (by go_simp)
  have a1 := cell_keep hb (p := ⟨w.heap.size, 1, none⟩) (v := .slice A l.length c) (by go_simp)
  have b0 := cell_keep hb (p := ⟨w.heap.size + 1, 0, none⟩) (v := .int .i64 N) (by go_simp)
  have b1 := cell_keep hb (p := ⟨w.heap.size + 1, 1, none⟩) (v := .slice A' l'.length c') (by go_simp)
  have hW1 := then_ (then_alloc (then_alloc (Below.refl w.heap.size w) _) _) hb
  clear hb
  go_wp2_with fail
  refine (Fits_yes N A' l'.length c' _ (by omega)).mono ?_
  rintro e w2 ⟨rfl, hb⟩
  replace a0 := cell_keep hb a0
  replace a1 := cell_keep hb a1
  replace b0 := cell_keep hb b0
  replace b1 := cell_keep hb b1
  have hW2 := then_ hW1 hb
  clear hb hW1
  go_upto_region 3 with fail
  go_cut [5, 6] (fun s5 s6 W => ∃ bx bY : Nat, s5 = .pointer (some ⟨bx, 0, none⟩) ∧ s6 = .pointer (some ⟨bY, 0, none⟩) ∧ W.cell? ⟨bx, 0, none⟩ = some (.int .i64 N) ∧ W.cell? ⟨bx, 1, none⟩ = some (.slice A l.length c) ∧ W.cell? ⟨bY, 0, none⟩ = some (.int .i64 N) ∧ W.cell? ⟨bY, 1, none⟩ = some (.slice A' l'.length c') ∧ Below w2.heap.size w2 W)
  case first =>
    have HS : Hid (∀ w', Below w2.heap.size w2 w' → w'.cell? ⟨w.heap.size, 0, none⟩ = some (.int .i64 N) ∧ w'.cell? ⟨w.heap.size, 1, none⟩ = some (.slice A l.length c) ∧ w'.cell? ⟨w.heap.size + 1, 0, none⟩ = some (.int .i64 N) ∧ w'.cell? ⟨w.heap.size + 1, 1, none⟩ = some (.slice A' l'.length c')) :=
      fun w' h => ⟨cell_keep h a0, cell_keep h a1, cell_keep h b0, cell_keep h b1⟩
    have hz := lt_cell b0
    have hz0 := lt_cell a0
    have tok : True := trivial
    clear hr hr' hW2
    go_region_held3 (fun w' => w'.cell? ⟨w.heap.size, 0, none⟩ = some (.int .i64 N) ∧ w'.cell? ⟨w.heap.size, 1, none⟩ = some (.slice A l.length c) ∧ w'.cell? ⟨w.heap.size + 1, 0, none⟩ = some (.int .i64 N) ∧ w'.cell? ⟨w.heap.size + 1, 1, none⟩ = some (.slice A' l'.length c'))
      (first
        | assumption
        | exact HS.out _ (by repeat' (first | exact Below.refl _ _ | refine Below.drew ?_ | refine then_alloc ?_ _ | refine Below.setCell ?_ (by simp) _)))
      (first
        | (go_at_call 21; have _t := tok; refine (conv_exact N A l.length c _).mono ?_; rintro e w3 ⟨rfl, rfl⟩; clear tok)
        | (go_at_call 21; refine (conv_exact N A' l'.length c' _).mono ?_; rintro e w4 ⟨rfl, rfl⟩))
    all_goals
      go_wp2_with fail
      go_meet
      refine ⟨_, _, rfl, rfl, by go_simp, by go_simp, by go_simp, by go_simp, ?_⟩
      repeat' (first | exact Below.refl _ _ | refine Below.drew ?_ | refine then_alloc ?_ _)
  obtain ⟨bx, bY, rfl, rfl, x0, x1, y0, y1, hb⟩ := hcut
  have a0 := cell_keep hb a0
  have a1 := cell_keep hb a1
  have b0 := cell_keep hb b0
  have b1 := cell_keep hb b1
  have hWc := then_ hW2 hb
  clear hb hW2
  go_wp2_with fail
  refine (sAlike_yes N A A' l l' c c' _ w.heap.size hWc.size (hr.below hWc) (hr'.below hWc) h1 h2 hl hN hl' hN').mono ?_
  rintro e w3 ⟨rfl, hb⟩
  have a0 := cell_keep hb a0
  have a1 := cell_keep hb a1
  have b0 := cell_keep hb b0
  have b1 := cell_keep hb b1
  have x0 := cell_keep hb x0
  have x1 := cell_keep hb x1
  have y0 := cell_keep hb y0
  have y1 := cell_keep hb y1
  have hW3 := then_ hWc hb
  clear hb hWc
  go_wp2_with fail
  have HS : Hid (∀ w', Below w3.heap.size w3 w' → w'.cell? ⟨w.heap.size, 0, none⟩ = some (.int .i64 N) ∧ w'.cell? ⟨w.heap.size, 1, none⟩ = some (.slice A l.length c) ∧ w'.cell? ⟨w.heap.size + 1, 0, none⟩ = some (.int .i64 N) ∧ w'.cell? ⟨w.heap.size + 1, 1, none⟩ = some (.slice A' l'.length c') ∧ w'.cell? ⟨bx, 0, none⟩ = some (.int .i64 N) ∧ w'.cell? ⟨bx, 1, none⟩ = some (.slice A l.length c) ∧ w'.cell? ⟨bY, 0, none⟩ = some (.int .i64 N) ∧ w'.cell? ⟨bY, 1, none⟩ = some (.slice A' l'.length c') ∧ Below w3.heap.size w3 w') :=
    fun w' h => ⟨cell_keep h a0, cell_keep h a1, cell_keep h b0, cell_keep h b1, cell_keep h x0, cell_keep h x1, cell_keep h y0, cell_keep h y1, h⟩
  have HR : Hid (∀ w', Below w3.heap.size w3 w' → Row w' w.heap.size A (ints l)) := fun w' h => hr.below (then_ hW3 h)
  have HB : Hid (∀ w', Below w3.heap.size w3 w' → w.heap.size ≤ w'.heap.size) := fun w' h => (then_ hW3 h).size
  have HR' : Hid (∀ w', Below w3.heap.size w3 w' → Row w' w.heap.size A' (ints l')) := fun w' h => hr'.below (then_ hW3 h)
  clear hr hr'
  have tokT : True := trivial
  have tokB : True := trivial
  have s0 : IntKind.i64.wrap (((on N (bitsOf l)).length : Int) + ((on N (bitsOf l')).length : Int)) = ((on N (bitsOf l)).length : Int) + ((on N (bitsOf l')).length : Int) := IntWalk.i64_in _ (by omega)
  go_region_held3 (fun w' => w'.cell? ⟨w.heap.size, 0, none⟩ = some (.int .i64 N) ∧ w'.cell? ⟨w.heap.size, 1, none⟩ = some (.slice A l.length c) ∧ w'.cell? ⟨w.heap.size + 1, 0, none⟩ = some (.int .i64 N) ∧ w'.cell? ⟨w.heap.size + 1, 1, none⟩ = some (.slice A' l'.length c') ∧ w'.cell? ⟨bx, 0, none⟩ = some (.int .i64 N) ∧ w'.cell? ⟨bx, 1, none⟩ = some (.slice A l.length c) ∧ w'.cell? ⟨bY, 0, none⟩ = some (.int .i64 N) ∧ w'.cell? ⟨bY, 1, none⟩ = some (.slice A' l'.length c') ∧ Below w3.heap.size w3 w')
    (first
      | assumption
      | exact HS.out _ (Below.refl _ _).drew
      | (go_split_ands; exact HS.out _ (next_ ‹_› ‹_›)))
    (first
      | (go_at_call 26; go_split_ands; have _t := tokA; refine (iCount_list N A l c _ w.heap.size h2 (HB.out _ ‹_›) (HR.out _ ‹_›) hl hN).mono ?_; rintro e w11 ⟨rfl, hb11⟩; clear tokA)
      | (go_at_call 26; go_split_ands; refine (iCount_list N A' l' c' _ w.heap.size h2 (HB.out _ ‹_›) (HR'.out _ ‹_›) hl' hN').mono ?_; rintro e w12 ⟨rfl, hb12⟩))
  go_split_ands
  have hW4 := then_ hW3 (‹Below w3.heap.size w3 w12›)
  have HT : Hid (∀ w', Below w12.heap.size w12 w' → Below w3.heap.size w3 w') := fun w' h => then_ (‹Below w3.heap.size w3 w12›) h
  have HT0 : Hid (∀ w', Below w12.heap.size w12 w' → w'.cell? ⟨w.heap.size, 0, none⟩ = some (.int .i64 N) ∧ w'.cell? ⟨w.heap.size, 1, none⟩ = some (.slice A l.length c) ∧ w'.cell? ⟨w.heap.size + 1, 0, none⟩ = some (.int .i64 N) ∧ w'.cell? ⟨w.heap.size + 1, 1, none⟩ = some (.slice A' l'.length c') ∧ w'.cell? ⟨bx, 0, none⟩ = some (.int .i64 N) ∧ w'.cell? ⟨bx, 1, none⟩ = some (.slice A l.length c) ∧ w'.cell? ⟨bY, 0, none⟩ = some (.int .i64 N) ∧ w'.cell? ⟨bY, 1, none⟩ = some (.slice A' l'.length c') ∧ Below w12.heap.size w12 w') := fun w' h => by
    obtain ⟨q1, q2, q3, q4, q5, q6, q7, q8, _⟩ := HS.out w' (HT.out w' h)
    exact ⟨q1, q2, q3, q4, q5, q6, q7, q8, h⟩
  have HR0 : Hid (∀ w', Below w12.heap.size w12 w' → Row w' w.heap.size A (ints l)) := fun w' h => HR.out w' (HT.out w' h)
  have HR0' : Hid (∀ w', Below w12.heap.size w12 w' → Row w' w.heap.size A' (ints l')) := fun w' h => HR'.out w' (HT.out w' h)
  have HB0 : Hid (∀ w', Below w12.heap.size w12 w' → w.heap.size ≤ w'.heap.size) := fun w' h => HB.out w' (HT.out w' h)
  go_wp2_with fail
  have s1 : IntKind.i64.wrap (((on N fun i => bitsOf l i && bitsOf l' i).length : Int) + ((on N fun i => bitsOf l i || bitsOf l' i).length : Int)) = ((on N (bitsOf l)).length : Int) + ((on N (bitsOf l')).length : Int) := by
    have := hbo.out
    rw [IntWalk.i64_in _ (by omega)]
    omega
  go_region_held3 (fun w' => w'.cell? ⟨w.heap.size, 0, none⟩ = some (.int .i64 N) ∧ w'.cell? ⟨w.heap.size, 1, none⟩ = some (.slice A l.length c) ∧ w'.cell? ⟨w.heap.size + 1, 0, none⟩ = some (.int .i64 N) ∧ w'.cell? ⟨w.heap.size + 1, 1, none⟩ = some (.slice A' l'.length c') ∧ w'.cell? ⟨bx, 0, none⟩ = some (.int .i64 N) ∧ w'.cell? ⟨bx, 1, none⟩ = some (.slice A l.length c) ∧ w'.cell? ⟨bY, 0, none⟩ = some (.int .i64 N) ∧ w'.cell? ⟨bY, 1, none⟩ = some (.slice A' l'.length c') ∧ Below w12.heap.size w12 w')
    (first
      | assumption
      | exact HT0.out _ (Below.refl _ _).drew
      | (go_split_ands; exact HT0.out _ (next_ ‹_› ‹_›)))
    (first
      | (go_at_call 34; go_split_ands; refine (iAnd_any N A A' l l' c c' _ w.heap.size h1 h2 (HB0.out _ ‹_›) (HR0.out _ ‹_›) hl hN (HR0'.out _ ‹_›) hl' hN').mono ?_; rintro e w14 ⟨A14, c14, rfl, hr14, hb14⟩)
      | (go_at_call 37; go_split_ands; refine (iOr_any N A A' l l' c c' _ w.heap.size h1 h2 (HB0.out _ ‹_›) (HR0.out _ ‹_›) hl hN (HR0'.out _ ‹_›) hl' hN').mono ?_; rintro e w15 ⟨A15, c15, rfl, hr15, hb15⟩)
      | (go_at_call 28; go_split_ands; have _t := tokT; refine (sTruths_any N A l c _ w.heap.size h2 (HB0.out _ ‹_›) (HR0.out _ ‹_›) hl hN).mono ?_; rintro e w5 ⟨A5, c5, rfl, hr5, hb5⟩; clear tokT)
      | (go_at_call 28; go_split_ands; refine (sTruths_any N A' l' c' _ w.heap.size h2 (HB0.out _ ‹_›) (HR0'.out _ ‹_›) hl' hN').mono ?_; rintro e w6 ⟨A6, c6, rfl, hr6, hb6⟩)
      | (go_at_call 27; go_split_ands; have _t := tokB; refine (sBits_any N A5 (bitsOf l) c5 _ _ h2 (Nat.le_refl _) hr5).mono ?_; rintro e w7 ⟨A7, c7, rfl, hr7, hb7⟩; clear tokB)
      | (go_at_call 27; go_split_ands; refine (sBits_any N A6 (bitsOf l') c6 _ _ h2 (Nat.le_refl _) hr6).mono ?_; rintro e w8 ⟨A8, c8, rfl, hr8, hb8⟩))
  go_wp2
  go_ret
  exact ⟨rfl, then_ hW4 (by go_split_ands; assumption)⟩

set_option maxHeartbeats 400000 in
theorem FnCountBoth_big1 (N N' : Int) (A A' : Option Addr) (n n' c c' : Nat) (w : World) (h : 2147483647 < n) :
    Calls Try.prog 16 #[.agg #[.int .i64 N, .slice A n c], .agg #[.int .i64 N', .slice A' n' c']] w fun e w' => e = .returned (.bool true) ∧ Below w.heap.size w w' := by
  go_enter Try.func16, Try.ntmps16
  go_wp2_with fail
  refine (Fits_no N A n c _ h).mono ?_
  rintro e w1 ⟨rfl, hb1⟩
  go_wp2_with fail
  go_ret
  exact ⟨rfl, then_ (then_alloc (then_alloc (Below.refl w.heap.size w) _) _) hb1⟩

set_option maxHeartbeats 400000 in
theorem FnCountBoth_big2 (N N' : Int) (A A' : Option Addr) (n n' c c' : Nat) (w : World) (h0 : n ≤ 2147483647) (h : 2147483647 < n') :
    Calls Try.prog 16 #[.agg #[.int .i64 N, .slice A n c], .agg #[.int .i64 N', .slice A' n' c']] w fun e w' => e = .returned (.bool true) ∧ Below w.heap.size w w' := by
  go_enter Try.func16, Try.ntmps16
  go_wp2_with fail
  refine (Fits_yes N A n c _ h0).mono ?_
  rintro e w1 ⟨rfl, hb⟩
  have b0 := cell_keep hb (p := ⟨w.heap.size + 1, 0, none⟩) (v := .int .i64 N') (by go_simp)
  have b1 := cell_keep hb (p := ⟨w.heap.size + 1, 1, none⟩) (v := .slice A' n' c') (by go_simp)
  have hW1 := then_ (then_alloc (then_alloc (Below.refl w.heap.size w) _) _) hb
  clear hb
  go_wp2_with fail
  refine (Fits_no N' A' n' c' _ h).mono ?_
  rintro e w2 ⟨rfl, hb⟩
  go_wp2_with fail
  go_ret
  exact ⟨rfl, then_ hW1 hb⟩

set_option maxHeartbeats 1600000 in
theorem FnCountBoth_bad (N N' : Int) (A A' : Option Addr) (l l' : List Int) (c c' : Nat) (w : World) (hr : Row w w.heap.size A (l.map (Value.int .i64))) (hr' : Row w w.heap.size A' (l'.map (Value.int .i64)))
    (hl : l.length ≤ 2147483647) (hl' : l'.length ≤ 2147483647) (hg : alikeB N N' l l' = false) :
    Calls Try.prog 16 #[.agg #[.int .i64 N, .slice A l.length c], .agg #[.int .i64 N', .slice A' l'.length c']] w fun e w' => e = .returned (.bool true) ∧ Below w.heap.size w w' := by
  have Hg := hide hg
  clear hg
  go_enter Try.func16, Try.ntmps16
  go_wp2_with fail
  refine (Fits_yes N A l.length c _ (by omega)).mono ?_
  rintro e w1 ⟨rfl, hb⟩
  have a0 := cell_keep hb (p := ⟨w.heap.size, 0, none⟩) (v := .int .i64 N) (by go_simp)
  have a1 := cell_keep hb (p := ⟨w.heap.size, 1, none⟩) (v := .slice A l.length c) (by go_simp)
  have b0 := cell_keep hb (p := ⟨w.heap.size + 1, 0, none⟩) (v := .int .i64 N') (by go_simp)
  have b1 := cell_keep hb (p := ⟨w.heap.size + 1, 1, none⟩) (v := .slice A' l'.length c') (by go_simp)
  have hW1 := then_ (then_alloc (then_alloc (Below.refl w.heap.size w) _) _) hb
  clear hb
  go_wp2_with fail
  refine (Fits_yes N' A' l'.length c' _ (by omega)).mono ?_
  rintro e w2 ⟨rfl, hb⟩
  replace a0 := cell_keep hb a0
  replace a1 := cell_keep hb a1
  replace b0 := cell_keep hb b0
  replace b1 := cell_keep hb b1
  have hW2 := then_ hW1 hb
  clear hb hW1
  go_upto_region 3 with fail
  go_cut [5, 6] (fun s5 s6 W => ∃ bx bY : Nat, s5 = .pointer (some ⟨bx, 0, none⟩) ∧ s6 = .pointer (some ⟨bY, 0, none⟩) ∧ W.cell? ⟨bx, 0, none⟩ = some (.int .i64 N) ∧ W.cell? ⟨bx, 1, none⟩ = some (.slice A l.length c) ∧ W.cell? ⟨bY, 0, none⟩ = some (.int .i64 N') ∧ W.cell? ⟨bY, 1, none⟩ = some (.slice A' l'.length c') ∧ Below w2.heap.size w2 W)
  case first =>
    have HS : Hid (∀ w', Below w2.heap.size w2 w' → w'.cell? ⟨w.heap.size, 0, none⟩ = some (.int .i64 N) ∧ w'.cell? ⟨w.heap.size, 1, none⟩ = some (.slice A l.length c) ∧ w'.cell? ⟨w.heap.size + 1, 0, none⟩ = some (.int .i64 N') ∧ w'.cell? ⟨w.heap.size + 1, 1, none⟩ = some (.slice A' l'.length c')) :=
      fun w' h => ⟨cell_keep h a0, cell_keep h a1, cell_keep h b0, cell_keep h b1⟩
    have hz := lt_cell b0
    have hz0 := lt_cell a0
    have tok : True := trivial
    clear hr hr' hW2
    go_region_held3 (fun w' => w'.cell? ⟨w.heap.size, 0, none⟩ = some (.int .i64 N) ∧ w'.cell? ⟨w.heap.size, 1, none⟩ = some (.slice A l.length c) ∧ w'.cell? ⟨w.heap.size + 1, 0, none⟩ = some (.int .i64 N') ∧ w'.cell? ⟨w.heap.size + 1, 1, none⟩ = some (.slice A' l'.length c'))
      (first
        | assumption
        | exact HS.out _ (by repeat' (first | exact Below.refl _ _ | refine Below.drew ?_ | refine then_alloc ?_ _ | refine Below.setCell ?_ (by simp) _)))
      (first
        | (go_at_call 21; have _t := tok; refine (conv_exact N A l.length c _).mono ?_; rintro e w3 ⟨rfl, rfl⟩; clear tok)
        | (go_at_call 21; refine (conv_exact N' A' l'.length c' _).mono ?_; rintro e w4 ⟨rfl, rfl⟩))
    all_goals
      go_wp2_with fail
      go_meet
      refine ⟨_, _, rfl, rfl, by go_simp, by go_simp, by go_simp, by go_simp, ?_⟩
      repeat' (first | exact Below.refl _ _ | refine Below.drew ?_ | refine then_alloc ?_ _)
  obtain ⟨bx, bY, rfl, rfl, x0, x1, y0, y1, hb⟩ := hcut
  have a0 := cell_keep hb a0
  have a1 := cell_keep hb a1
  have b0 := cell_keep hb b0
  have b1 := cell_keep hb b1
  have hWc := then_ hW2 hb
  clear hb hW2
  go_wp2_with fail
  refine (sAlike_no N N' A A' l l' c c' _ w.heap.size hWc.size (hr.below hWc) (hr'.below hWc) hl hl' Hg.out).mono ?_
  rintro e w3 ⟨rfl, hb⟩
  have hW3 := then_ hWc hb
  clear hb hWc a0 a1 b0 b1 x0 x1 y0 y1 hr hr'
  go_wp2_with fail
  go_ret
  exact ⟨rfl, hW3⟩

theorem FnCountBoth_walk (N N' : Int) (A A' : Option Addr) (l l' : List Int) (c c' : Nat) (w : World) (hr : Row w w.heap.size A (l.map (Value.int .i64))) (hr' : Row w w.heap.size A' (l'.map (Value.int .i64))) :
    Calls Try.prog 16 #[.agg #[.int .i64 N, .slice A l.length c], .agg #[.int .i64 N', .slice A' l'.length c']] w fun e w' => e = .returned (.bool true) ∧ Below w.heap.size w w' := by
  by_cases hl : l.length ≤ 2147483647
  · by_cases hl' : l'.length ≤ 2147483647
    · cases hg : alikeB N N' l l' with
      | false => exact FnCountBoth_bad N N' A A' l l' c c' w hr hr' hl hl' hg
      | true =>
        unfold alikeB at hg
        simp only [Bool.and_eq_true, decide_eq_true_eq] at hg
        obtain ⟨g1, g2, rfl⟩ := hg
        obtain ⟨M, m, rfl, rfl, h1, h2, h3, h4⟩ := goodB_open g1
        obtain ⟨M', m', e1, rfl, _, _, h3', h4'⟩ := goodB_open g2
        obtain rfl : M = M' := by omega
        rw [ints_cast] at hr hr'
        rw [List.length_map, List.length_map]
        exact FnCountBoth_good M A A' m m' c c' w hr hr' h1 h2 h3 h4 h3' h4'
    · exact FnCountBoth_big2 N N' A A' l.length l'.length c c' w hl (by omega)
  · exact FnCountBoth_big1 N N' A A' l.length l'.length c c' w (by omega)
end Bv
end Go.Proofs.Ytjogehjgoemdpaa
