/- Contract of build. -/
import Derived.Test.YtjogehjgoemdpaaCore
import Derived.Deep.LoopGhost
import Derived.Deep.DeepFit
namespace Go.Proofs.Ytjogehjgoemdpaa
open Go.RowKit
namespace Bv

set_option maxHeartbeats 400000 in
theorem build_any (N : Nat) (A : Option Addr) (l : List Nat) (c : Nat) (w : World) (B : Nat) (h2 : N ≤ 300) (hB : B ≤ w.heap.size) (hr : Row w B A (ints l)) (hl : l.length ≤ 600) (hN : ∀ x ∈ l, x < N) :
    Calls Try.prog 45 #[.agg #[.int .i64 N, .slice A l.length c]] w (Made w N (bitsOf l)) := by
  go_enter Try.func45, Try.ntmps45
  go_wp2_with fail
  refine (New_any N _ h2).mono ?_
  rintro e w1 ⟨g, rfl, hg, hv, hb⟩
  simp only [World.size_alloc] at hg hb
  have b0 := old_cell hb (b := w.heap.size) (o := 0) (v := .int .i64 N) (by omega) (by go_simp)
  have b1 := old_cell hb (b := w.heap.size) (o := 1) (v := .slice A l.length c) (by omega) (by go_simp)
  have b2 := old_cell hb (b := w.heap.size + 1) (o := 0) (v := .int .i32 0) (by omega) (by go_simp)
  have b3 := old_cell hb (b := w.heap.size + 1) (o := 1) (v := .slice none 0 0) (by omega) (by go_simp)
  have f2 := old_free hb (b := w.heap.size + 1) (o := 0) (by omega) (by go_simp)
  have f3 := old_free hb (b := w.heap.size + 1) (o := 1) (by omega) (by go_simp)
  have hz : w.heap.size + 1 < w1.heap.size := by have := hb.size; simp at this; omega
  have hz0 : w.heap.size < w1.heap.size := by omega
  have hgl := hv.lt
  go_wp2_with fail
  go_loopw [13] (fun i wr => ∃ k : Nat, k ≤ l.length ∧ i = .int .i64 k ∧ Vec wr g 0 N (bitsOf (l.take k)) ∧ Only (w1.alloc (.cells #[.int .i32 N, .slice (some ⟨g, 0, none⟩) ((N + 31) / 32) ((N + 31) / 32)] 60)) wr g 0 ((N + 31) / 32))
    (fun i _ => l.length - (intOf i).toNat)
  case atStart => exact ⟨0, Nat.zero_le _, rfl, by rw [List.take_zero, bitsOf_nil]; exact hv.alloc _, Only.refl _ _ _ _⟩
  case round =>
    obtain ⟨k, hk, rfl, hvr, ho⟩ := hrel
    have c0 : wr.cell? ⟨w1.heap.size, 0, none⟩ = some (.int .i32 N) := (ho.cell_far (p := ⟨w1.heap.size, 0, none⟩) (by simp) (by show w1.heap.size ≠ g; omega)).trans (by go_simp)
    have c1 : wr.cell? ⟨w1.heap.size, 1, none⟩ = some (.slice (some ⟨g, 0, none⟩) ((N + 31) / 32) ((N + 31) / 32)) := (ho.cell_far (p := ⟨w1.heap.size, 1, none⟩) (by simp) (by show w1.heap.size ≠ g; omega)).trans (by go_simp)
    have hbl : Below w.heap.size w wr := ((((((Below.refl _ _).alloc (Nat.le_refl _) _).alloc (by simp) _).trans (hb.mono (by omega))).alloc (by omega) _).trans (ho.below (by omega) (by simp; omega)))
    by_cases hlt : k < l.length
    · obtain ⟨ad, rfl, hadB, hcell⟩ := (hr.below (hbl.mono hB)).get k (by rw [ints_length]; exact hlt)
      obtain ⟨x, hx⟩ : ∃ x, x = l[k] := ⟨_, rfl⟩
      have hx2 : wr.cell? (ad.add k) = some (.int .i64 x) := by rw [hcell, hx]; simp [ints]
      have hxN : x < N := hx ▸ hN _ (List.getElem_mem hlt)
      have Hx : Hid (l.take (k + 1) = l.take k ++ [x]) := by rw [hx, List.take_succ_eq_append_getElem hlt]; rfl
      clear hx hcell hb b0 b1 b2 b3 f2 f3 hv hr hN
      go_wp2_with fail
      refine (mSet_nat N x g 0 _ _ _ hxN h2 hvr).mono ?_
      rintro e w2 ⟨rfl, hv2, ho2⟩
      rw [← bitsOf_snoc, ← Hx.out] at hv2
      have ho3 := ho.trans ho2
      clear ho ho2 hvr c0 c1 hbl Hx
      go_wp2_with fail
      go_roundw
      case rel => exact ⟨k + 1, by omega, by go_num, hv2, ho3⟩
      case measure => simp [intOf]; omega
    · have hke : k = l.length := by omega
      subst hke
      rw [List.take_length] at hvr
      have d0 : wr.cell? ⟨w.heap.size + 1, 0, none⟩ = some (.int .i32 0) := (ho.cell_far (p := ⟨w.heap.size + 1, 0, none⟩) (by simp; omega) (by show w.heap.size + 1 ≠ g; omega)).trans (by go_simp)
      have d1 : wr.cell? ⟨w.heap.size + 1, 1, none⟩ = some (.slice none 0 0) := (ho.cell_far (p := ⟨w.heap.size + 1, 1, none⟩) (by simp; omega) (by show w.heap.size + 1 ≠ g; omega)).trans (by go_simp)
      have e0 : wr.frozen? ⟨w.heap.size + 1, 0, none⟩ = false := (ho.frozen_far (p := ⟨w.heap.size + 1, 0, none⟩) (by simp; omega) (by show w.heap.size + 1 ≠ g; omega)).trans (by go_simp)
      have e1 : wr.frozen? ⟨w.heap.size + 1, 1, none⟩ = false := (ho.frozen_far (p := ⟨w.heap.size + 1, 1, none⟩) (by simp; omega) (by show w.heap.size + 1 ≠ g; omega)).trans (by go_simp)
      clear hb b0 b1 b2 b3 f2 f3 hv
      go_wp2_with fail
      refine bodyPost_ret (v := .agg #[.int .i32 N, .slice (some ⟨g, 0, none⟩) ((N + 31) / 32) ((N + 31) / 32)]) (by simp [results, Try.results45, go_sem, d0, d1]) rfl ?_
      exact ⟨g, rfl, by omega, (hvr.setCell (by show w.heap.size + 1 ≠ g; omega) _).setCell (by show w.heap.size + 1 ≠ g; omega) _, (hbl.setCell (by show w.heap.size ≤ w.heap.size + 1; omega) _).setCell (by show w.heap.size ≤ w.heap.size + 1; omega) _⟩
end Bv
end Go.Proofs.Ytjogehjgoemdpaa
