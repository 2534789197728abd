/- FnApart's walk. -/
import Derived.Test.YtjogehjgoemdpaaKit
import Derived.Test.YtjogehjgoemdpaaMixed
import Derived.Test.YtjogehjgoemdpaaFresh
import Derived.Deep.DeepCutAuto
import Derived.Deep.RegionHeld3
namespace Go.Proofs.Ytjogehjgoemdpaa
open Go.RowKit
namespace Bv

set_option maxHeartbeats 3200000 in
theorem FnApart_good (N : Nat) (A A' : Option Addr) (l l' : List Nat) (c c' : Nat) (w : World) (hr : Row w w.heap.size A (ints l)) (hr' : Row w w.heap.size A' (ints l')) (h1 : 1 ≤ N) (h2 : N ≤ 300) (hl : l.length ≤ 600) (hN : ∀ x ∈ l, x < N) (hl' : l'.length ≤ 600) (hN' : ∀ x ∈ l', x < N) :
    Calls Try.prog 18 #[.agg #[.int .i64 N, .slice A l.length c], .agg #[.int .i64 N, .slice A' l'.length c']] w fun e w' => e = .returned (.bool true) ∧ Below w.heap.size w w' := by
  have hol := on_le N (bitsOf l)
  have hol' := on_le N (bitsOf l')
  have hoa := on_le N (fun i => bitsOf l i && !bitsOf l' i)
  have hob := on_le N (fun i => bitsOf l i && bitsOf l' i)
  have how := on_le N (fun i => bitsOf (on N fun i => bitsOf l i && !bitsOf l' i) i || bitsOf (on N fun i => bitsOf l i && bitsOf l' i) i)
  go_enter Try.func18, Try.ntmps18
  go_wp2_with fail
  refine (Fits_yes N A l.length c _ (by omega)).mono ?_
  rintro e w1 ⟨rfl, hb⟩
  have a0 := cell_keep hb (p := ⟨w.heap.size, 0, none⟩) (v := .int .i64 N) (by go_simp)
  have a1 := cell_keep hb (p := ⟨w.heap.size, 1, none⟩) (v := .slice A l.length c) (by go_simp)
  have b0 := cell_keep hb (p := ⟨w.heap.size + 1, 0, none⟩) (v := .int .i64 N) (by go_simp)
  have b1 := cell_keep hb (p := ⟨w.heap.size + 1, 1, none⟩) (v := .slice A' l'.length c') (by go_simp)
  have hW1 := then_ (then_alloc (then_alloc (Below.refl w.heap.size w) _) _) hb
  clear hb
  go_wp2_with fail
  refine (Fits_yes N A' l'.length c' _ (by omega)).mono ?_
  rintro e w2 ⟨rfl, hb⟩
  replace a0 := cell_keep hb a0
  replace a1 := cell_keep hb a1
  replace b0 := cell_keep hb b0
  replace b1 := cell_keep hb b1
  have hW2 := then_ hW1 hb
  clear hb hW1
  go_upto_region 3 with fail
  go_cut [5, 6] (fun s5 s6 W => ∃ bx bY : Nat, s5 = .pointer (some ⟨bx, 0, none⟩) ∧ s6 = .pointer (some ⟨bY, 0, none⟩) ∧ W.cell? ⟨bx, 0, none⟩ = some (.int .i64 N) ∧ W.cell? ⟨bx, 1, none⟩ = some (.slice A l.length c) ∧ W.cell? ⟨bY, 0, none⟩ = some (.int .i64 N) ∧ W.cell? ⟨bY, 1, none⟩ = some (.slice A' l'.length c') ∧ Below w2.heap.size w2 W)
  case first =>
    have HS : Hid (∀ w', Below w2.heap.size w2 w' → w'.cell? ⟨w.heap.size, 0, none⟩ = some (.int .i64 N) ∧ w'.cell? ⟨w.heap.size, 1, none⟩ = some (.slice A l.length c) ∧ w'.cell? ⟨w.heap.size + 1, 0, none⟩ = some (.int .i64 N) ∧ w'.cell? ⟨w.heap.size + 1, 1, none⟩ = some (.slice A' l'.length c')) :=
      fun w' h => ⟨cell_keep h a0, cell_keep h a1, cell_keep h b0, cell_keep h b1⟩
    have hz := lt_cell b0
    have hz0 := lt_cell a0
    have tok : True := trivial
    clear hr hr' hW2
    go_region_held3 (fun w' => w'.cell? ⟨w.heap.size, 0, none⟩ = some (.int .i64 N) ∧ w'.cell? ⟨w.heap.size, 1, none⟩ = some (.slice A l.length c) ∧ w'.cell? ⟨w.heap.size + 1, 0, none⟩ = some (.int .i64 N) ∧ w'.cell? ⟨w.heap.size + 1, 1, none⟩ = some (.slice A' l'.length c'))
      (first
        | assumption
        | exact HS.out _ (by repeat' (first | exact Below.refl _ _ | refine Below.drew ?_ | refine then_alloc ?_ _ | refine Below.setCell ?_ (by simp) _)))
      (first
        | (go_at_call 21; have _t := tok; refine (conv_exact N A l.length c _).mono ?_; rintro e w3 ⟨rfl, rfl⟩; clear tok)
        | (go_at_call 21; refine (conv_exact N A' l'.length c' _).mono ?_; rintro e w4 ⟨rfl, rfl⟩))
    all_goals
      go_wp2_with fail
      go_meet
      refine ⟨_, _, rfl, rfl, by go_simp, by go_simp, by go_simp, by go_simp, ?_⟩
      repeat' (first | exact Below.refl _ _ | refine Below.drew ?_ | refine then_alloc ?_ _)
  obtain ⟨bx, bY, rfl, rfl, x0, x1, y0, y1, hb⟩ := hcut
  have a0 := cell_keep hb a0
  have a1 := cell_keep hb a1
  have b0 := cell_keep hb b0
  have b1 := cell_keep hb b1
  have hWc := then_ hW2 hb
  clear hb hW2
  go_wp2_with fail
  refine (sAlike_yes N A A' l l' c c' _ w.heap.size hWc.size (hr.below hWc) (hr'.below hWc) h1 h2 hl hN hl' hN').mono ?_
  rintro e w3 ⟨rfl, hb⟩
  have a0 := cell_keep hb a0
  have a1 := cell_keep hb a1
  have b0 := cell_keep hb b0
  have b1 := cell_keep hb b1
  have x0 := cell_keep hb x0
  have x1 := cell_keep hb x1
  have y0 := cell_keep hb y0
  have y1 := cell_keep hb y1
  have hW3 := then_ hWc hb
  clear hb hWc
  go_wp2_with fail
  have HS : Hid (∀ w', Below w3.heap.size w3 w' → w'.cell? ⟨w.heap.size, 0, none⟩ = some (.int .i64 N) ∧ w'.cell? ⟨w.heap.size, 1, none⟩ = some (.slice A l.length c) ∧ w'.cell? ⟨w.heap.size + 1, 0, none⟩ = some (.int .i64 N) ∧ w'.cell? ⟨w.heap.size + 1, 1, none⟩ = some (.slice A' l'.length c') ∧ w'.cell? ⟨bx, 0, none⟩ = some (.int .i64 N) ∧ w'.cell? ⟨bx, 1, none⟩ = some (.slice A l.length c) ∧ w'.cell? ⟨bY, 0, none⟩ = some (.int .i64 N) ∧ w'.cell? ⟨bY, 1, none⟩ = some (.slice A' l'.length c') ∧ Below w3.heap.size w3 w') :=
    fun w' h => ⟨cell_keep h a0, cell_keep h a1, cell_keep h b0, cell_keep h b1, cell_keep h x0, cell_keep h x1, cell_keep h y0, cell_keep h y1, h⟩
  have HR : Hid (∀ w', Below w3.heap.size w3 w' → Row w' w.heap.size A (ints l)) := fun w' h => hr.below (then_ hW3 h)
  have HB : Hid (∀ w', Below w3.heap.size w3 w' → w.heap.size ≤ w'.heap.size) := fun w' h => (then_ hW3 h).size
  have HR' : Hid (∀ w', Below w3.heap.size w3 w' → Row w' w.heap.size A' (ints l')) := fun w' h => hr'.below (then_ hW3 h)
  clear hr hr'
  go_upto_region 6 with fail
  go_cut [7] (fun s X => Boxed w3 X N (on N fun i => bitsOf l i && !bitsOf l' i) s)
  case first =>
    go_region_held3 (fun w' => w'.cell? ⟨w.heap.size, 0, none⟩ = some (.int .i64 N) ∧ w'.cell? ⟨w.heap.size, 1, none⟩ = some (.slice A l.length c) ∧ w'.cell? ⟨w.heap.size + 1, 0, none⟩ = some (.int .i64 N) ∧ w'.cell? ⟨w.heap.size + 1, 1, none⟩ = some (.slice A' l'.length c') ∧ w'.cell? ⟨bx, 0, none⟩ = some (.int .i64 N) ∧ w'.cell? ⟨bx, 1, none⟩ = some (.slice A l.length c) ∧ w'.cell? ⟨bY, 0, none⟩ = some (.int .i64 N) ∧ w'.cell? ⟨bY, 1, none⟩ = some (.slice A' l'.length c') ∧ Below w3.heap.size w3 w')
      (first
        | assumption
        | exact HS.out _ (Below.refl _ _).drew
        | (go_split_ands; refine HS.out _ ?_; (repeat' (first | assumption | exact Below.refl _ _ | refine Below.drew ?_ | refine then_alloc ?_ _ | refine Below.setCell ?_ ?_ _)); all_goals (first | exact Nat.le_refl _ | (simp; omega) | omega)))
      (first
        | (go_at_call 36; go_split_ands; refine (iAndNot_fresh N A A' l l' c c' _ w.heap.size h1 h2 (HB.out _ ‹_›) (HR.out _ ‹_›) hl hN (HR'.out _ ‹_›) hl' hN').mono ?_; rintro e wd ⟨Ad, cd, rfl, hrd, hbd, hfd⟩; have hbe := next_ hbd ‹_›; have hse := hbe.size
           first
             | (have hz := boxed_cells (n := w3.heap.size) hbd rfl; obtain ⟨z0, z1, z2, z3⟩ := hz)
             | (have hz := boxed_cells (n := w3.heap.size) (undrew hbd) rfl; obtain ⟨z0, z1, z2, z3⟩ := hz)
             | skip))
    all_goals
      go_wp2_with fail
      go_meet
      first
        | exact boxed_behind hrd hbe
        | exact boxed_ahead hrd hbe (Nat.le_refl _) (by simp) hfd z0 z1
  obtain ⟨b4, A4, c4, rfl, d4, e4, hr4, hO⟩ := hcut
  obtain ⟨a0, a1, b0, b1, x0, x1, y0, y1, _⟩ := HS.out _ hO
  have hW4 := then_ hW3 hO
  have HR0 : Hid (∀ w', Below wc.heap.size wc w' → Row w' w.heap.size A (ints l)) := fun w' h => HR.out w' (then_ hO h)
  have HR0' : Hid (∀ w', Below wc.heap.size wc w' → Row w' w.heap.size A' (ints l')) := fun w' h => HR'.out w' (then_ hO h)
  have HB0 : Hid (∀ w', Below wc.heap.size wc w' → w.heap.size ≤ w'.heap.size) := fun w' h => HB.out w' (then_ hO h)
  clear HS HR HR' HB
  have HS : Hid (∀ w', Below wc.heap.size wc w' → w'.cell? ⟨w.heap.size, 0, none⟩ = some (.int .i64 N) ∧ w'.cell? ⟨w.heap.size, 1, none⟩ = some (.slice A l.length c) ∧ w'.cell? ⟨w.heap.size + 1, 0, none⟩ = some (.int .i64 N) ∧ w'.cell? ⟨w.heap.size + 1, 1, none⟩ = some (.slice A' l'.length c') ∧ w'.cell? ⟨bx, 0, none⟩ = some (.int .i64 N) ∧ w'.cell? ⟨bx, 1, none⟩ = some (.slice A l.length c) ∧ w'.cell? ⟨bY, 0, none⟩ = some (.int .i64 N) ∧ w'.cell? ⟨bY, 1, none⟩ = some (.slice A' l'.length c') ∧ w'.cell? ⟨b4, 0, none⟩ = some (.int .i64 N) ∧ w'.cell? ⟨b4, 1, none⟩ = some (.slice A4 (on N fun i => bitsOf l i && !bitsOf l' i).length c4) ∧ Below wc.heap.size wc w') :=
    fun w' h => ⟨cell_keep h a0, cell_keep h a1, cell_keep h b0, cell_keep h b1, cell_keep h x0, cell_keep h x1, cell_keep h y0, cell_keep h y1, cell_keep h d4, cell_keep h e4, h⟩
  have HR := HR0
  have HR' := HR0'
  have HB := HB0
  clear HR0 HR0' HB0
  have hk4 := hr4
  go_upto_region 7 with fail
  go_cut [8] (fun s X => Boxed wc X N (on N fun i => bitsOf l i && bitsOf l' i) s)
  case first =>
    go_region_held3 (fun w' => w'.cell? ⟨w.heap.size, 0, none⟩ = some (.int .i64 N) ∧ w'.cell? ⟨w.heap.size, 1, none⟩ = some (.slice A l.length c) ∧ w'.cell? ⟨w.heap.size + 1, 0, none⟩ = some (.int .i64 N) ∧ w'.cell? ⟨w.heap.size + 1, 1, none⟩ = some (.slice A' l'.length c') ∧ w'.cell? ⟨bx, 0, none⟩ = some (.int .i64 N) ∧ w'.cell? ⟨bx, 1, none⟩ = some (.slice A l.length c) ∧ w'.cell? ⟨bY, 0, none⟩ = some (.int .i64 N) ∧ w'.cell? ⟨bY, 1, none⟩ = some (.slice A' l'.length c') ∧ w'.cell? ⟨b4, 0, none⟩ = some (.int .i64 N) ∧ w'.cell? ⟨b4, 1, none⟩ = some (.slice A4 (on N fun i => bitsOf l i && !bitsOf l' i).length c4) ∧ Below wc.heap.size wc w')
      (first
        | assumption
        | exact HS.out _ (Below.refl _ _).drew
        | (go_split_ands; refine HS.out _ ?_; (repeat' (first | assumption | exact Below.refl _ _ | refine Below.drew ?_ | refine then_alloc ?_ _ | refine Below.setCell ?_ ?_ _)); all_goals (first | exact Nat.le_refl _ | (simp; omega) | omega)))
      (first
        | (go_at_call 34; go_split_ands; refine (iAnd_fresh N A A' l l' c c' _ w.heap.size h1 h2 (HB.out _ ‹_›) (HR.out _ ‹_›) hl hN (HR'.out _ ‹_›) hl' hN').mono ?_; rintro e wd ⟨Ad, cd, rfl, hrd, hbd, hfd⟩; have hbe := next_ hbd ‹_›; have hse := hbe.size
           first
             | (have hz := boxed_cells (n := wc.heap.size) hbd rfl; obtain ⟨z0, z1, z2, z3⟩ := hz)
             | (have hz := boxed_cells (n := wc.heap.size) (undrew hbd) rfl; obtain ⟨z0, z1, z2, z3⟩ := hz)
             | skip))
    all_goals
      go_wp2_with fail
      go_meet
      first
        | exact boxed_behind hrd hbe
        | exact boxed_ahead hrd hbe (Nat.le_refl _) (by simp) hfd z0 z1
  obtain ⟨b5, A5, c5, rfl, d5, e5, hr5, hO⟩ := hcut
  obtain ⟨a0, a1, b0, b1, x0, x1, y0, y1, d4, e4, _⟩ := HS.out _ hO
  have hW5 := then_ hW4 hO
  have HR0 : Hid (∀ w', Below wc.heap.size wc w' → Row w' w.heap.size A (ints l)) := fun w' h => HR.out w' (then_ hO h)
  have HR0' : Hid (∀ w', Below wc.heap.size wc w' → Row w' w.heap.size A' (ints l')) := fun w' h => HR'.out w' (then_ hO h)
  have HB0 : Hid (∀ w', Below wc.heap.size wc w' → w.heap.size ≤ w'.heap.size) := fun w' h => HB.out w' (then_ hO h)
  clear HS HR HR' HB
  have HS : Hid (∀ w', Below wc.heap.size wc w' → w'.cell? ⟨w.heap.size, 0, none⟩ = some (.int .i64 N) ∧ w'.cell? ⟨w.heap.size, 1, none⟩ = some (.slice A l.length c) ∧ w'.cell? ⟨w.heap.size + 1, 0, none⟩ = some (.int .i64 N) ∧ w'.cell? ⟨w.heap.size + 1, 1, none⟩ = some (.slice A' l'.length c') ∧ w'.cell? ⟨bx, 0, none⟩ = some (.int .i64 N) ∧ w'.cell? ⟨bx, 1, none⟩ = some (.slice A l.length c) ∧ w'.cell? ⟨bY, 0, none⟩ = some (.int .i64 N) ∧ w'.cell? ⟨bY, 1, none⟩ = some (.slice A' l'.length c') ∧ w'.cell? ⟨b4, 0, none⟩ = some (.int .i64 N) ∧ w'.cell? ⟨b4, 1, none⟩ = some (.slice A4 (on N fun i => bitsOf l i && !bitsOf l' i).length c4) ∧ w'.cell? ⟨b5, 0, none⟩ = some (.int .i64 N) ∧ w'.cell? ⟨b5, 1, none⟩ = some (.slice A5 (on N fun i => bitsOf l i && bitsOf l' i).length c5) ∧ Below wc.heap.size wc w') :=
    fun w' h => ⟨cell_keep h a0, cell_keep h a1, cell_keep h b0, cell_keep h b1, cell_keep h x0, cell_keep h x1, cell_keep h y0, cell_keep h y1, cell_keep h d4, cell_keep h e4, cell_keep h d5, cell_keep h e5, h⟩
  have HR := HR0
  have HR' := HR0'
  have HB := HB0
  clear HR0 HR0' HB0
  have HQ : Hid (∀ w', Below wc.heap.size wc w' → Row w' wc.heap.size A4 (ints (on N fun i => bitsOf l i && !bitsOf l' i)) ∧ Row w' wc.heap.size A5 (ints (on N fun i => bitsOf l i && bitsOf l' i)) ∧ Row w' wc.heap.size A' (ints l') ∧ wc.heap.size ≤ w'.heap.size) :=
    fun w' h => ⟨(hr4.below (then_ hO h)).mono hO.size, hr5.below h, (HR'.out w' h).mono (HB.out _ (Below.refl _ _)), h.size⟩
  clear hr4 hr5 hk4 hO
  go_upto_region 8 with fail
  have tokT : True := trivial
  have tokB : True := trivial
  go_region_held3 (fun w' => w'.cell? ⟨w.heap.size, 0, none⟩ = some (.int .i64 N) ∧ w'.cell? ⟨w.heap.size, 1, none⟩ = some (.slice A l.length c) ∧ w'.cell? ⟨w.heap.size + 1, 0, none⟩ = some (.int .i64 N) ∧ w'.cell? ⟨w.heap.size + 1, 1, none⟩ = some (.slice A' l'.length c') ∧ w'.cell? ⟨bx, 0, none⟩ = some (.int .i64 N) ∧ w'.cell? ⟨bx, 1, none⟩ = some (.slice A l.length c) ∧ w'.cell? ⟨bY, 0, none⟩ = some (.int .i64 N) ∧ w'.cell? ⟨bY, 1, none⟩ = some (.slice A' l'.length c') ∧ w'.cell? ⟨b4, 0, none⟩ = some (.int .i64 N) ∧ w'.cell? ⟨b4, 1, none⟩ = some (.slice A4 (on N fun i => bitsOf l i && !bitsOf l' i).length c4) ∧ w'.cell? ⟨b5, 0, none⟩ = some (.int .i64 N) ∧ w'.cell? ⟨b5, 1, none⟩ = some (.slice A5 (on N fun i => bitsOf l i && bitsOf l' i).length c5) ∧ Below wc.heap.size wc w')
    (first
      | assumption
      | exact HS.out _ (Below.refl _ _).drew
      | (go_split_ands; exact HS.out _ (next_ ‹_› ‹_›)))
    (first
      | (go_at_call 34; go_split_ands; refine (iAnd_apart N A4 A' _ l' c4 c' _ wc.heap.size h1 h2 (HQ.out _ ‹_›).2.2.2 (bitsOf l) rfl (HQ.out _ ‹_›).1 (HQ.out _ ‹_›).2.2.1 hl' hN').mono ?_; rintro e w4 ⟨A6, c6, rfl, hb4⟩)
      | (go_at_call 37; go_split_ands; refine (iOr_any N A4 A5 (on N fun i => bitsOf l i && !bitsOf l' i) (on N fun i => bitsOf l i && bitsOf l' i) c4 c5 _ wc.heap.size h1 h2 (HQ.out _ ‹_›).2.2.2 (HQ.out _ ‹_›).1 (by omega) on_lt (HQ.out _ ‹_›).2.1 (by omega) on_lt).mono ?_; rintro e w5 ⟨A7, c7, rfl, hr7, hb5⟩)
      | (go_at_call 28; go_split_ands; have _t := tokT; refine (sTruths_any N A l c _ w.heap.size h2 (HB.out _ ‹_›) (HR.out _ ‹_›) hl hN).mono ?_; rintro e w6 ⟨A8, c8, rfl, hr8, hb6⟩; clear tokT)
      | (go_at_call 27; go_split_ands; have _t := tokB; refine (sBits_any N A8 (bitsOf l) c8 _ _ h2 (Nat.le_refl _) hr8).mono ?_; rintro e w7 ⟨A9, c9, rfl, hr9, hb7⟩; clear tokB)
      | (go_at_call 31; go_split_ands; refine (sSame_eq A7 A9 _ _ c7 c9 _ _ _ (on_whole N (bitsOf l) (bitsOf l')) (then_ hb6 hb7).size (Nat.le_refl _) (hr7.below (then_ hb6 hb7)) hr9 (by omega)).mono ?_; rintro e w8 ⟨rfl, hb8⟩)
      | (go_at_call 26; go_split_ands; refine (iCount_list N A' l' c' _ w.heap.size h2 (HB.out _ ‹_›) (HR'.out _ ‹_›) hl' hN').mono ?_; rintro e w9 ⟨rfl, hb9⟩)
      | (go_at_call 28; go_split_ands; refine (sTruths_any N A' l' c' _ w.heap.size h2 (HB.out _ ‹_›) (HR'.out _ ‹_›) hl' hN').mono ?_; rintro e w10 ⟨A10, c10, rfl, hr10, hb10⟩)
      | (go_at_call 27; go_split_ands; refine (sBits_any N A10 (bitsOf l') c10 _ _ h2 (Nat.le_refl _) hr10).mono ?_; rintro e w11 ⟨A11, c11, rfl, hr11, hb11⟩))
  go_wp2
  go_ret
  exact ⟨rfl, then_ hW5 (by go_split_ands; assumption)⟩

set_option maxHeartbeats 400000 in
theorem FnApart_big1 (N N' : Int) (A A' : Option Addr) (n n' c c' : Nat) (w : World) (h : 2147483647 < n) :
    Calls Try.prog 18 #[.agg #[.int .i64 N, .slice A n c], .agg #[.int .i64 N', .slice A' n' c']] w fun e w' => e = .returned (.bool true) ∧ Below w.heap.size w w' := by
  go_enter Try.func18, Try.ntmps18
  go_wp2_with fail
  refine (Fits_no N A n c _ h).mono ?_
  rintro e w1 ⟨rfl, hb1⟩
  go_wp2_with fail
  go_ret
  exact ⟨rfl, then_ (then_alloc (then_alloc (Below.refl w.heap.size w) _) _) hb1⟩

set_option maxHeartbeats 400000 in
theorem FnApart_big2 (N N' : Int) (A A' : Option Addr) (n n' c c' : Nat) (w : World) (h0 : n ≤ 2147483647) (h : 2147483647 < n') :
    Calls Try.prog 18 #[.agg #[.int .i64 N, .slice A n c], .agg #[.int .i64 N', .slice A' n' c']] w fun e w' => e = .returned (.bool true) ∧ Below w.heap.size w w' := by
  go_enter Try.func18, Try.ntmps18
  go_wp2_with fail
  refine (Fits_yes N A n c _ h0).mono ?_
  rintro e w1 ⟨rfl, hb⟩
  have b0 := cell_keep hb (p := ⟨w.heap.size + 1, 0, none⟩) (v := .int .i64 N') (by go_simp)
  have b1 := cell_keep hb (p := ⟨w.heap.size + 1, 1, none⟩) (v := .slice A' n' c') (by go_simp)
  have hW1 := then_ (then_alloc (then_alloc (Below.refl w.heap.size w) _) _) hb
  clear hb
  go_wp2_with fail
  refine (Fits_no N' A' n' c' _ h).mono ?_
  rintro e w2 ⟨rfl, hb⟩
  go_wp2_with fail
  go_ret
  exact ⟨rfl, then_ hW1 hb⟩

set_option maxHeartbeats 1600000 in
theorem FnApart_bad (N N' : Int) (A A' : Option Addr) (l l' : List Int) (c c' : Nat) (w : World) (hr : Row w w.heap.size A (l.map (Value.int .i64))) (hr' : Row w w.heap.size A' (l'.map (Value.int .i64)))
    (hl : l.length ≤ 2147483647) (hl' : l'.length ≤ 2147483647) (hg : alikeB N N' l l' = false) :
    Calls Try.prog 18 #[.agg #[.int .i64 N, .slice A l.length c], .agg #[.int .i64 N', .slice A' l'.length c']] w fun e w' => e = .returned (.bool true) ∧ Below w.heap.size w w' := by
  have Hg := hide hg
  clear hg
  go_enter Try.func18, Try.ntmps18
  go_wp2_with fail
  refine (Fits_yes N A l.length c _ (by omega)).mono ?_
  rintro e w1 ⟨rfl, hb⟩
  have a0 := cell_keep hb (p := ⟨w.heap.size, 0, none⟩) (v := .int .i64 N) (by go_simp)
  have a1 := cell_keep hb (p := ⟨w.heap.size, 1, none⟩) (v := .slice A l.length c) (by go_simp)
  have b0 := cell_keep hb (p := ⟨w.heap.size + 1, 0, none⟩) (v := .int .i64 N') (by go_simp)
  have b1 := cell_keep hb (p := ⟨w.heap.size + 1, 1, none⟩) (v := .slice A' l'.length c') (by go_simp)
  have hW1 := then_ (then_alloc (then_alloc (Below.refl w.heap.size w) _) _) hb
  clear hb
  go_wp2_with fail
  refine (Fits_yes N' A' l'.length c' _ (by omega)).mono ?_
  rintro e w2 ⟨rfl, hb⟩
  replace a0 := cell_keep hb a0
  replace a1 := cell_keep hb a1
  replace b0 := cell_keep hb b0
  replace b1 := cell_keep hb b1
  have hW2 := then_ hW1 hb
  clear hb hW1
  go_upto_region 3 with fail
  go_cut [5, 6] (fun s5 s6 W => ∃ bx bY : Nat, s5 = .pointer (some ⟨bx, 0, none⟩) ∧ s6 = .pointer (some ⟨bY, 0, none⟩) ∧ W.cell? ⟨bx, 0, none⟩ = some (.int .i64 N) ∧ W.cell? ⟨bx, 1, none⟩ = some (.slice A l.length c) ∧ W.cell? ⟨bY, 0, none⟩ = some (.int .i64 N') ∧ W.cell? ⟨bY, 1, none⟩ = some (.slice A' l'.length c') ∧ Below w2.heap.size w2 W)
  case first =>
    have HS : Hid (∀ w', Below w2.heap.size w2 w' → w'.cell? ⟨w.heap.size, 0, none⟩ = some (.int .i64 N) ∧ w'.cell? ⟨w.heap.size, 1, none⟩ = some (.slice A l.length c) ∧ w'.cell? ⟨w.heap.size + 1, 0, none⟩ = some (.int .i64 N') ∧ w'.cell? ⟨w.heap.size + 1, 1, none⟩ = some (.slice A' l'.length c')) :=
      fun w' h => ⟨cell_keep h a0, cell_keep h a1, cell_keep h b0, cell_keep h b1⟩
    have hz := lt_cell b0
    have hz0 := lt_cell a0
    have tok : True := trivial
    clear hr hr' hW2
    go_region_held3 (fun w' => w'.cell? ⟨w.heap.size, 0, none⟩ = some (.int .i64 N) ∧ w'.cell? ⟨w.heap.size, 1, none⟩ = some (.slice A l.length c) ∧ w'.cell? ⟨w.heap.size + 1, 0, none⟩ = some (.int .i64 N') ∧ w'.cell? ⟨w.heap.size + 1, 1, none⟩ = some (.slice A' l'.length c'))
      (first
        | assumption
        | exact HS.out _ (by repeat' (first | exact Below.refl _ _ | refine Below.drew ?_ | refine then_alloc ?_ _ | refine Below.setCell ?_ (by simp) _)))
      (first
        | (go_at_call 21; have _t := tok; refine (conv_exact N A l.length c _).mono ?_; rintro e w3 ⟨rfl, rfl⟩; clear tok)
        | (go_at_call 21; refine (conv_exact N' A' l'.length c' _).mono ?_; rintro e w4 ⟨rfl, rfl⟩))
    all_goals
      go_wp2_with fail
      go_meet
      refine ⟨_, _, rfl, rfl, by go_simp, by go_simp, by go_simp, by go_simp, ?_⟩
      repeat' (first | exact Below.refl _ _ | refine Below.drew ?_ | refine then_alloc ?_ _)
  obtain ⟨bx, bY, rfl, rfl, x0, x1, y0, y1, hb⟩ := hcut
  have a0 := cell_keep hb a0
  have a1 := cell_keep hb a1
  have b0 := cell_keep hb b0
  have b1 := cell_keep hb b1
  have hWc := then_ hW2 hb
  clear hb hW2
  go_wp2_with fail
  refine (sAlike_no N N' A A' l l' c c' _ w.heap.size hWc.size (hr.below hWc) (hr'.below hWc) hl hl' Hg.out).mono ?_
  rintro e w3 ⟨rfl, hb⟩
  have hW3 := then_ hWc hb
  clear hb hWc a0 a1 b0 b1 x0 x1 y0 y1 hr hr'
  go_wp2_with fail
  go_ret
  exact ⟨rfl, hW3⟩

theorem FnApart_walk (N N' : Int) (A A' : Option Addr) (l l' : List Int) (c c' : Nat) (w : World) (hr : Row w w.heap.size A (l.map (Value.int .i64))) (hr' : Row w w.heap.size A' (l'.map (Value.int .i64))) :
    Calls Try.prog 18 #[.agg #[.int .i64 N, .slice A l.length c], .agg #[.int .i64 N', .slice A' l'.length c']] w fun e w' => e = .returned (.bool true) ∧ Below w.heap.size w w' := by
  by_cases hl : l.length ≤ 2147483647
  · by_cases hl' : l'.length ≤ 2147483647
    · cases hg : alikeB N N' l l' with
      | false => exact FnApart_bad N N' A A' l l' c c' w hr hr' hl hl' hg
      | true =>
        unfold alikeB at hg
        simp only [Bool.and_eq_true, decide_eq_true_eq] at hg
        obtain ⟨g1, g2, rfl⟩ := hg
        obtain ⟨M, m, rfl, rfl, h1, h2, h3, h4⟩ := goodB_open g1
        obtain ⟨M', m', e1, rfl, _, _, h3', h4'⟩ := goodB_open g2
        obtain rfl : M = M' := by omega
        rw [ints_cast] at hr hr'
        rw [List.length_map, List.length_map]
        exact FnApart_good M A A' m m' c c' w hr hr' h1 h2 h3 h4 h3' h4'
    · exact FnApart_big2 N N' A A' l.length l'.length c c' w hl (by omega)
  · exact FnApart_big1 N N' A A' l.length l'.length c c' w (by omega)
end Bv
end Go.Proofs.Ytjogehjgoemdpaa
