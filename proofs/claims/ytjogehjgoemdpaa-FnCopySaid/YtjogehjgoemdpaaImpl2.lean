/- Contracts of the thin package's functions of two vectors. -/
import Derived.Test.YtjogehjgoemdpaaImpl1
namespace Go.Proofs.Ytjogehjgoemdpaa
open Go.RowKit
namespace Bv

set_option maxHeartbeats 800000 in
theorem iEq_any (N : Nat) (A A' : Option Addr) (l l' : List Nat) (c c' : Nat) (w : World) (B : Nat) (h2 : N ≤ 300) (hB : B ≤ w.heap.size) (hr : Row w B A (ints l)) (hl : l.length ≤ 600) (hN : ∀ x ∈ l, x < N)
    (hr' : Row w B A' (ints l')) (hl' : l'.length ≤ 600) (hN' : ∀ x ∈ l', x < N) :
    Calls Try.prog 30 #[.agg #[.int .i64 N, .slice A l.length c], .agg #[.int .i64 N, .slice A' l'.length c']] w fun e w' => e = .returned (.bool (eqB ((N + 31) / 32) (bitsOf l) (bitsOf l'))) ∧ Below w.heap.size w w' := by
  go_enter Try.func30, Try.ntmps30
  go_wp2_with fail
  generalize hW : (w.alloc (.cells #[.int .i64 N, .slice A l.length c] 24)).alloc (.cells #[.int .i64 N, .slice A' l'.length c'] 24) = W
  have q0 : W.cell? ⟨w.heap.size, 0, none⟩ = some (.int .i64 N) := by rw [← hW]; clear hW; go_simp
  have q1 : W.cell? ⟨w.heap.size, 1, none⟩ = some (.slice A l.length c) := by rw [← hW]; clear hW; go_simp
  have r0 : W.cell? ⟨w.heap.size + 1, 0, none⟩ = some (.int .i64 N) := by rw [← hW]; clear hW; go_simp
  have r1 : W.cell? ⟨w.heap.size + 1, 1, none⟩ = some (.slice A' l'.length c') := by rw [← hW]; clear hW; go_simp
  have hbW : Below w.heap.size w W := by rw [← hW]; exact then_alloc (then_alloc (Below.refl _ _) _) _
  clear hW
  have HS : Hid (∀ w', Below W.heap.size W w' → w'.cell? ⟨w.heap.size, 0, none⟩ = some (.int .i64 N) ∧ w'.cell? ⟨w.heap.size, 1, none⟩ = some (.slice A l.length c) ∧ w'.cell? ⟨w.heap.size + 1, 0, none⟩ = some (.int .i64 N) ∧ w'.cell? ⟨w.heap.size + 1, 1, none⟩ = some (.slice A' l'.length c') ∧ Below W.heap.size W w') :=
    fun w' h => ⟨cell_keep h q0, cell_keep h q1, cell_keep h r0, cell_keep h r1, h⟩
  have HR : Hid (∀ w', Below W.heap.size W w' → Row w' B A (ints l)) := fun w' h => hr.below ((then_ hbW h).mono hB)
  have HR' : Hid (∀ w', Below W.heap.size W w' → Row w' B A' (ints l')) := fun w' h => hr'.below ((then_ hbW h).mono hB)
  have HB : Hid (∀ w', Below W.heap.size W w' → B ≤ w'.heap.size) := fun w' h => Nat.le_trans hB (then_ hbW h).size
  have tok : True := trivial
  clear hr hr'
  go_region_held3 (fun w' => w'.cell? ⟨w.heap.size, 0, none⟩ = some (.int .i64 N) ∧ w'.cell? ⟨w.heap.size, 1, none⟩ = some (.slice A l.length c) ∧ w'.cell? ⟨w.heap.size + 1, 0, none⟩ = some (.int .i64 N) ∧ w'.cell? ⟨w.heap.size + 1, 1, none⟩ = some (.slice A' l'.length c') ∧ Below W.heap.size W w')
    (first | assumption | exact HS.out _ (Below.refl _ _).drew | (go_split_ands; exact HS.out _ (next_ ‹_› ‹_›)))
    (first
      | (go_at_call 45; have _t := tok; go_split_ands; refine (build_any N A l c _ B h2 (HB.out _ ‹_›) (HR.out _ ‹_›) hl hN).mono ?_; rintro e w4 ⟨g1, rfl, hg1, hv1, hb4⟩; clear tok)
      | (go_at_call 45; go_split_ands; refine (build_any N A' l' c' _ B h2 (HB.out _ ‹_›) (HR'.out _ ‹_›) hl' hN').mono ?_; rintro e w5 ⟨g2, rfl, hg2, hv2, hb5⟩)
      | (go_at_call 49; go_split_ands; refine (mEq_any N g1 0 _ g2 0 _ _ _ _ h2 (hv1.keep hb5) hv2).mono ?_; rintro e w6 ⟨rfl, hb6⟩))
  go_wp2
  go_ret
  go_split_ands
  exact ⟨rfl, then_ hbW ‹_›⟩

set_option maxHeartbeats 1600000 in
theorem iAnd_any (N : Nat) (A A' : Option Addr) (l l' : List Nat) (c c' : Nat) (w : World) (B : Nat) (h1 : 1 ≤ N) (h2 : N ≤ 300) (hB : B ≤ w.heap.size) (hr : Row w B A (ints l)) (hl : l.length ≤ 600) (hN : ∀ x ∈ l, x < N)
    (hr' : Row w B A' (ints l')) (hl' : l'.length ≤ 600) (hN' : ∀ x ∈ l', x < N) :
    Calls Try.prog 34 #[.agg #[.int .i64 N, .slice A l.length c], .agg #[.int .i64 N, .slice A' l'.length c']] w (GivesInts w (on N (fun i => bitsOf l i && bitsOf l' i))) := by
  go_enter Try.func34, Try.ntmps34
  go_wp2_with fail
  refine (New_any N _ h2).mono ?_
  rintro e w1 ⟨g, rfl, hg, hv, hb⟩
  simp only [World.size_alloc] at hg hb
  have q0 := old_cell hb (b := w.heap.size) (o := 0) (v := .int .i64 N) (by omega) (by go_simp)
  have q1 := old_cell hb (b := w.heap.size) (o := 1) (v := .slice A l.length c) (by omega) (by go_simp)
  have r0 := old_cell hb (b := w.heap.size + 1) (o := 0) (v := .int .i64 N) (by omega) (by go_simp)
  have r1 := old_cell hb (b := w.heap.size + 1) (o := 1) (v := .slice A' l'.length c') (by omega) (by go_simp)
  have hb1 : Below w.heap.size w w1 := then_ (then_alloc (then_alloc (Below.refl w.heap.size w) _) _) (by simpa using hb)
  have z1 := lt_cell r0
  have z0 := lt_cell q0
  have hgl := hv.lt
  clear hb
  go_wp2_with fail
  generalize hW : w1.alloc (.cells #[.int .i32 N, .slice (some ⟨g, 0, none⟩) ((N + 31) / 32) ((N + 31) / 32)] 60) = W
  have d0 : W.cell? ⟨w1.heap.size, 0, none⟩ = some (.int .i32 N) := by rw [← hW]; exact new_cell rfl
  have d1 : W.cell? ⟨w1.heap.size, 1, none⟩ = some (.slice (some ⟨g, 0, none⟩) ((N + 31) / 32) ((N + 31) / 32)) := by rw [← hW]; exact new_cell rfl
  have hb2 : Below w1.heap.size w1 W := by rw [← hW]; exact then_alloc (Below.refl _ _) _
  clear hW
  replace q0 := cell_keep hb2 q0
  replace q1 := cell_keep hb2 q1
  replace r0 := cell_keep hb2 r0
  replace r1 := cell_keep hb2 r1
  replace hv := hv.keep hb2
  have hbW := then_ hb1 hb2
  clear hb1 hb2
  have HR : Hid (∀ w', Below w.heap.size w w' → Row w' B A (ints l)) := fun w' h => hr.below (h.mono hB)
  have HR' : Hid (∀ w', Below w.heap.size w w' → Row w' B A' (ints l')) := fun w' h => hr'.below (h.mono hB)
  have HB : Hid (∀ w', Below w.heap.size w w' → B ≤ w'.heap.size) := fun w' h => Nat.le_trans hB h.size
  have HV : Hid (∀ w', Below W.heap.size W w' → Vec w' g 0 N fun _ => false) := fun w' h => hv.keep h
  have hgW := hv.lt
  have tok : True := trivial
  clear hr hr' hv
  go_region_held3 (fun w' => w'.cell? ⟨w.heap.size, 0, none⟩ = some (.int .i64 N) ∧ w'.cell? ⟨w.heap.size, 1, none⟩ = some (.slice A l.length c) ∧ w'.cell? ⟨w.heap.size + 1, 0, none⟩ = some (.int .i64 N) ∧ w'.cell? ⟨w.heap.size + 1, 1, none⟩ = some (.slice A' l'.length c') ∧ w'.cell? ⟨w1.heap.size, 0, none⟩ = some (.int .i32 N) ∧ w'.cell? ⟨w1.heap.size, 1, none⟩ = some (.slice (some ⟨g, 0, none⟩) ((N + 31) / 32) ((N + 31) / 32)) ∧ Below w.heap.size w w')
    (first
      | assumption
      | exact ⟨q0, q1, r0, r1, d0, d1, hbW.drew⟩
      | (go_split_ands; exact ⟨far_cell ho6 ‹_› (by omega), far_cell ho6 ‹_› (by omega), far_cell ho6 ‹_› (by omega), far_cell ho6 ‹_› (by omega), far_cell ho6 ‹_› (by omega), far_cell ho6 ‹_› (by omega), Wrote.below ‹_› ho6 (by omega)⟩)
      | (go_split_ands; exact ⟨cell_keep hb5 ‹_›, cell_keep hb5 ‹_›, cell_keep hb5 ‹_›, cell_keep hb5 ‹_›, cell_keep hb5 ‹_›, cell_keep hb5 ‹_›, then_ ‹_› hb5⟩)
      | (go_split_ands; exact ⟨cell_keep hb4 ‹_›, cell_keep hb4 ‹_›, cell_keep hb4 ‹_›, cell_keep hb4 ‹_›, cell_keep hb4 ‹_›, cell_keep hb4 ‹_›, then_ ‹_› hb4⟩))
    (first
      | (go_at_call 45; have _t := tok; go_split_ands; refine (build_any N A l c _ B h2 (HB.out _ ‹_›) (HR.out _ ‹_›) hl hN).mono ?_; rintro e w4 ⟨g1, rfl, hg1, hv1, hb4⟩; have hg4 : W.heap.size ≤ g1 := hg1; have hu4 := undrew hb4; clear tok)
      | (go_at_call 45; go_split_ands; refine (build_any N A' l' c' _ B h2 (HB.out _ ‹_›) (HR'.out _ ‹_›) hl' hN').mono ?_; rintro e w5 ⟨g2, rfl, hg2, hv2, hb5⟩)
      | (go_at_call 54; go_split_ands; refine (mAnd_any N g 0 _ g1 0 _ g2 0 _ _ _ _ _ h1 h2 (HV.out _ (then_ hu4 hb5)) (hv1.keep hb5) hv2 (Or.inr (Or.inl (by omega))) (Or.inr (Or.inl (by have := hu4.size; omega)))).mono ?_; rintro e w6 ⟨rfl, hv6, ho6⟩))
  go_split_ands
  go_wp2_with fail
  refine (bits_any N g 0 _ _ _ h2 hv6).mono ?_
  rintro e w7 ⟨A', c', rfl, hrow, hb7⟩
  have hb8 := then_ (‹Below w.heap.size w w6›) hb7
  clear hb7
  go_wp2_with fail
  go_ret
  exact ⟨A', c', rfl, hrow, hb8⟩

set_option maxHeartbeats 1600000 in
theorem iOr_any (N : Nat) (A A' : Option Addr) (l l' : List Nat) (c c' : Nat) (w : World) (B : Nat) (h1 : 1 ≤ N) (h2 : N ≤ 300) (hB : B ≤ w.heap.size) (hr : Row w B A (ints l)) (hl : l.length ≤ 600) (hN : ∀ x ∈ l, x < N)
    (hr' : Row w B A' (ints l')) (hl' : l'.length ≤ 600) (hN' : ∀ x ∈ l', x < N) :
    Calls Try.prog 37 #[.agg #[.int .i64 N, .slice A l.length c], .agg #[.int .i64 N, .slice A' l'.length c']] w (GivesInts w (on N (fun i => bitsOf l i || bitsOf l' i))) := by
  go_enter Try.func37, Try.ntmps37
  go_wp2_with fail
  refine (New_any N _ h2).mono ?_
  rintro e w1 ⟨g, rfl, hg, hv, hb⟩
  simp only [World.size_alloc] at hg hb
  have q0 := old_cell hb (b := w.heap.size) (o := 0) (v := .int .i64 N) (by omega) (by go_simp)
  have q1 := old_cell hb (b := w.heap.size) (o := 1) (v := .slice A l.length c) (by omega) (by go_simp)
  have r0 := old_cell hb (b := w.heap.size + 1) (o := 0) (v := .int .i64 N) (by omega) (by go_simp)
  have r1 := old_cell hb (b := w.heap.size + 1) (o := 1) (v := .slice A' l'.length c') (by omega) (by go_simp)
  have hb1 : Below w.heap.size w w1 := then_ (then_alloc (then_alloc (Below.refl w.heap.size w) _) _) (by simpa using hb)
  have z1 := lt_cell r0
  have z0 := lt_cell q0
  have hgl := hv.lt
  clear hb
  go_wp2_with fail
  generalize hW : w1.alloc (.cells #[.int .i32 N, .slice (some ⟨g, 0, none⟩) ((N + 31) / 32) ((N + 31) / 32)] 60) = W
  have d0 : W.cell? ⟨w1.heap.size, 0, none⟩ = some (.int .i32 N) := by rw [← hW]; exact new_cell rfl
  have d1 : W.cell? ⟨w1.heap.size, 1, none⟩ = some (.slice (some ⟨g, 0, none⟩) ((N + 31) / 32) ((N + 31) / 32)) := by rw [← hW]; exact new_cell rfl
  have hb2 : Below w1.heap.size w1 W := by rw [← hW]; exact then_alloc (Below.refl _ _) _
  clear hW
  replace q0 := cell_keep hb2 q0
  replace q1 := cell_keep hb2 q1
  replace r0 := cell_keep hb2 r0
  replace r1 := cell_keep hb2 r1
  replace hv := hv.keep hb2
  have hbW := then_ hb1 hb2
  clear hb1 hb2
  have HR : Hid (∀ w', Below w.heap.size w w' → Row w' B A (ints l)) := fun w' h => hr.below (h.mono hB)
  have HR' : Hid (∀ w', Below w.heap.size w w' → Row w' B A' (ints l')) := fun w' h => hr'.below (h.mono hB)
  have HB : Hid (∀ w', Below w.heap.size w w' → B ≤ w'.heap.size) := fun w' h => Nat.le_trans hB h.size
  have HV : Hid (∀ w', Below W.heap.size W w' → Vec w' g 0 N fun _ => false) := fun w' h => hv.keep h
  have hgW := hv.lt
  have tok : True := trivial
  clear hr hr' hv
  go_region_held3 (fun w' => w'.cell? ⟨w.heap.size, 0, none⟩ = some (.int .i64 N) ∧ w'.cell? ⟨w.heap.size, 1, none⟩ = some (.slice A l.length c) ∧ w'.cell? ⟨w.heap.size + 1, 0, none⟩ = some (.int .i64 N) ∧ w'.cell? ⟨w.heap.size + 1, 1, none⟩ = some (.slice A' l'.length c') ∧ w'.cell? ⟨w1.heap.size, 0, none⟩ = some (.int .i32 N) ∧ w'.cell? ⟨w1.heap.size, 1, none⟩ = some (.slice (some ⟨g, 0, none⟩) ((N + 31) / 32) ((N + 31) / 32)) ∧ Below w.heap.size w w')
    (first
      | assumption
      | exact ⟨q0, q1, r0, r1, d0, d1, hbW.drew⟩
      | (go_split_ands; exact ⟨far_cell ho6 ‹_› (by omega), far_cell ho6 ‹_› (by omega), far_cell ho6 ‹_› (by omega), far_cell ho6 ‹_› (by omega), far_cell ho6 ‹_› (by omega), far_cell ho6 ‹_› (by omega), Wrote.below ‹_› ho6 (by omega)⟩)
      | (go_split_ands; exact ⟨cell_keep hb5 ‹_›, cell_keep hb5 ‹_›, cell_keep hb5 ‹_›, cell_keep hb5 ‹_›, cell_keep hb5 ‹_›, cell_keep hb5 ‹_›, then_ ‹_› hb5⟩)
      | (go_split_ands; exact ⟨cell_keep hb4 ‹_›, cell_keep hb4 ‹_›, cell_keep hb4 ‹_›, cell_keep hb4 ‹_›, cell_keep hb4 ‹_›, cell_keep hb4 ‹_›, then_ ‹_› hb4⟩))
    (first
      | (go_at_call 45; have _t := tok; go_split_ands; refine (build_any N A l c _ B h2 (HB.out _ ‹_›) (HR.out _ ‹_›) hl hN).mono ?_; rintro e w4 ⟨g1, rfl, hg1, hv1, hb4⟩; have hg4 : W.heap.size ≤ g1 := hg1; have hu4 := undrew hb4; clear tok)
      | (go_at_call 45; go_split_ands; refine (build_any N A' l' c' _ B h2 (HB.out _ ‹_›) (HR'.out _ ‹_›) hl' hN').mono ?_; rintro e w5 ⟨g2, rfl, hg2, hv2, hb5⟩)
      | (go_at_call 56; go_split_ands; refine (mOr_any N g 0 _ g1 0 _ g2 0 _ _ _ _ _ h1 h2 (HV.out _ (then_ hu4 hb5)) (hv1.keep hb5) hv2 (Or.inr (Or.inl (by omega))) (Or.inr (Or.inl (by have := hu4.size; omega)))).mono ?_; rintro e w6 ⟨rfl, hv6, ho6⟩))
  go_split_ands
  go_wp2_with fail
  refine (bits_any N g 0 _ _ _ h2 hv6).mono ?_
  rintro e w7 ⟨A', c', rfl, hrow, hb7⟩
  have hb8 := then_ (‹Below w.heap.size w w6›) hb7
  clear hb7
  go_wp2_with fail
  go_ret
  exact ⟨A', c', rfl, hrow, hb8⟩

set_option maxHeartbeats 1600000 in
theorem iAndNot_any (N : Nat) (A A' : Option Addr) (l l' : List Nat) (c c' : Nat) (w : World) (B : Nat) (h1 : 1 ≤ N) (h2 : N ≤ 300) (hB : B ≤ w.heap.size) (hr : Row w B A (ints l)) (hl : l.length ≤ 600) (hN : ∀ x ∈ l, x < N)
    (hr' : Row w B A' (ints l')) (hl' : l'.length ≤ 600) (hN' : ∀ x ∈ l', x < N) :
    Calls Try.prog 36 #[.agg #[.int .i64 N, .slice A l.length c], .agg #[.int .i64 N, .slice A' l'.length c']] w (GivesInts w (on N (fun i => bitsOf l i && !bitsOf l' i))) := by
  go_enter Try.func36, Try.ntmps36
  go_wp2_with fail
  refine (New_any N _ h2).mono ?_
  rintro e w1 ⟨g, rfl, hg, hv, hb⟩
  simp only [World.size_alloc] at hg hb
  have q0 := old_cell hb (b := w.heap.size) (o := 0) (v := .int .i64 N) (by omega) (by go_simp)
  have q1 := old_cell hb (b := w.heap.size) (o := 1) (v := .slice A l.length c) (by omega) (by go_simp)
  have r0 := old_cell hb (b := w.heap.size + 1) (o := 0) (v := .int .i64 N) (by omega) (by go_simp)
  have r1 := old_cell hb (b := w.heap.size + 1) (o := 1) (v := .slice A' l'.length c') (by omega) (by go_simp)
  have hb1 : Below w.heap.size w w1 := then_ (then_alloc (then_alloc (Below.refl w.heap.size w) _) _) (by simpa using hb)
  have z1 := lt_cell r0
  have z0 := lt_cell q0
  have hgl := hv.lt
  clear hb
  go_wp2_with fail
  generalize hW : w1.alloc (.cells #[.int .i32 N, .slice (some ⟨g, 0, none⟩) ((N + 31) / 32) ((N + 31) / 32)] 60) = W
  have d0 : W.cell? ⟨w1.heap.size, 0, none⟩ = some (.int .i32 N) := by rw [← hW]; exact new_cell rfl
  have d1 : W.cell? ⟨w1.heap.size, 1, none⟩ = some (.slice (some ⟨g, 0, none⟩) ((N + 31) / 32) ((N + 31) / 32)) := by rw [← hW]; exact new_cell rfl
  have hb2 : Below w1.heap.size w1 W := by rw [← hW]; exact then_alloc (Below.refl _ _) _
  clear hW
  replace q0 := cell_keep hb2 q0
  replace q1 := cell_keep hb2 q1
  replace r0 := cell_keep hb2 r0
  replace r1 := cell_keep hb2 r1
  replace hv := hv.keep hb2
  have hbW := then_ hb1 hb2
  clear hb1 hb2
  have HR : Hid (∀ w', Below w.heap.size w w' → Row w' B A (ints l)) := fun w' h => hr.below (h.mono hB)
  have HR' : Hid (∀ w', Below w.heap.size w w' → Row w' B A' (ints l')) := fun w' h => hr'.below (h.mono hB)
  have HB : Hid (∀ w', Below w.heap.size w w' → B ≤ w'.heap.size) := fun w' h => Nat.le_trans hB h.size
  have HV : Hid (∀ w', Below W.heap.size W w' → Vec w' g 0 N fun _ => false) := fun w' h => hv.keep h
  have hgW := hv.lt
  have tok : True := trivial
  clear hr hr' hv
  go_region_held3 (fun w' => w'.cell? ⟨w.heap.size, 0, none⟩ = some (.int .i64 N) ∧ w'.cell? ⟨w.heap.size, 1, none⟩ = some (.slice A l.length c) ∧ w'.cell? ⟨w.heap.size + 1, 0, none⟩ = some (.int .i64 N) ∧ w'.cell? ⟨w.heap.size + 1, 1, none⟩ = some (.slice A' l'.length c') ∧ w'.cell? ⟨w1.heap.size, 0, none⟩ = some (.int .i32 N) ∧ w'.cell? ⟨w1.heap.size, 1, none⟩ = some (.slice (some ⟨g, 0, none⟩) ((N + 31) / 32) ((N + 31) / 32)) ∧ Below w.heap.size w w')
    (first
      | assumption
      | exact ⟨q0, q1, r0, r1, d0, d1, hbW.drew⟩
      | (go_split_ands; exact ⟨far_cell ho6 ‹_› (by omega), far_cell ho6 ‹_› (by omega), far_cell ho6 ‹_› (by omega), far_cell ho6 ‹_› (by omega), far_cell ho6 ‹_› (by omega), far_cell ho6 ‹_› (by omega), Wrote.below ‹_› ho6 (by omega)⟩)
      | (go_split_ands; exact ⟨cell_keep hb5 ‹_›, cell_keep hb5 ‹_›, cell_keep hb5 ‹_›, cell_keep hb5 ‹_›, cell_keep hb5 ‹_›, cell_keep hb5 ‹_›, then_ ‹_› hb5⟩)
      | (go_split_ands; exact ⟨cell_keep hb4 ‹_›, cell_keep hb4 ‹_›, cell_keep hb4 ‹_›, cell_keep hb4 ‹_›, cell_keep hb4 ‹_›, cell_keep hb4 ‹_›, then_ ‹_› hb4⟩))
    (first
      | (go_at_call 45; have _t := tok; go_split_ands; refine (build_any N A l c _ B h2 (HB.out _ ‹_›) (HR.out _ ‹_›) hl hN).mono ?_; rintro e w4 ⟨g1, rfl, hg1, hv1, hb4⟩; have hg4 : W.heap.size ≤ g1 := hg1; have hu4 := undrew hb4; clear tok)
      | (go_at_call 45; go_split_ands; refine (build_any N A' l' c' _ B h2 (HB.out _ ‹_›) (HR'.out _ ‹_›) hl' hN').mono ?_; rintro e w5 ⟨g2, rfl, hg2, hv2, hb5⟩)
      | (go_at_call 55; go_split_ands; refine (mAndNot_any N g 0 _ g1 0 _ g2 0 _ _ _ _ _ h1 h2 (HV.out _ (then_ hu4 hb5)) (hv1.keep hb5) hv2 (Or.inr (Or.inl (by omega))) (Or.inr (Or.inl (by have := hu4.size; omega)))).mono ?_; rintro e w6 ⟨rfl, hv6, ho6⟩))
  go_split_ands
  go_wp2_with fail
  refine (bits_any N g 0 _ _ _ h2 hv6).mono ?_
  rintro e w7 ⟨A', c', rfl, hrow, hb7⟩
  have hb8 := then_ (‹Below w.heap.size w w6›) hb7
  clear hb7
  go_wp2_with fail
  go_ret
  exact ⟨A', c', rfl, hrow, hb8⟩
end Bv
end Go.Proofs.Ytjogehjgoemdpaa
