/- FnNext's walk. -/
import Derived.Test.YtjogehjgoemdpaaDoorNextc
import Derived.Test.YtjogehjgoemdpaaDoorRead
namespace Go.Proofs.YtjogehjgoemdpaaDoor
open Go.RowKit
namespace Bv

set_option maxHeartbeats 1600000 in
theorem FnNext_good (N i : Nat) (A : Option Addr) (l : List Nat) (c : Nat) (w : World) (hr : Row w w.heap.size A (ints l)) (h1 : 1 ≤ N) (h2 : N ≤ 300) (hl : l.length ≤ 600) (hN : ∀ x ∈ l, x < N) (hi : i ≤ 600) (hT : Tab w) :
    Calls Tryd.prog 3 #[.agg #[.int .i64 N, .slice A l.length c], .int .i64 i] w fun e w' => e = .returned (.bool true) ∧ Below w.heap.size w w' := by
  have HT := hide hT
  clear hT
  go_enter Tryd.func3, Tryd.ntmps3
  go_wp2_with fail
  refine (Fits_yes N A l.length c _ (by omega)).mono ?_
  rintro e w1 ⟨rfl, hb1⟩
  have v0 := cell_keep hb1 (p := ⟨w.heap.size, 0, none⟩) (v := .int .i64 N) (by go_simp)
  have v1 := cell_keep hb1 (p := ⟨w.heap.size, 1, none⟩) (v := .slice A l.length c) (by go_simp)
  have hW1 := then_ (then_alloc (Below.refl w.heap.size w) _) hb1
  clear hb1
  go_wp2_with fail
  refine (conv_any N A l.length c _).mono ?_
  rintro e w2 ⟨rfl, hb2⟩
  replace v0 := cell_keep hb2 v0
  replace v1 := cell_keep hb2 v1
  have hW2 := then_ hW1 hb2
  have hz := lt_cell v0
  clear hb2 hW1
  go_wp2_with fail
  refine (sGood_yes N A l c _ w.heap.size (by simp; omega) (hr.below (then_alloc hW2 _)) h1 h2 hl hN).mono ?_
  rintro e w3 ⟨rfl, hb3⟩
  have x0 := cell_keep hb3 (p := ⟨w2.heap.size, 0, none⟩) (v := .int .i64 N) (by go_simp)
  have x1 := cell_keep hb3 (p := ⟨w2.heap.size, 1, none⟩) (v := .slice A l.length c) (by go_simp)
  replace v0 := cell_keep hb3 (p := ⟨w.heap.size, 0, none⟩) (v := .int .i64 N) (by go_simp)
  replace v1 := cell_keep hb3 (p := ⟨w.heap.size, 1, none⟩) (v := .slice A l.length c) (by go_simp)
  have hW3 := then_ (then_alloc hW2 _) hb3
  clear hb3 hW2 hz
  go_wp2_with fail
  refine (sTruths_any N A l c _ w.heap.size h2 hW3.size (hr.below hW3) hl hN).mono ?_
  rintro e w4 ⟨A4, c4, rfl, hr4, hb4⟩
  replace v0 := cell_keep hb4 v0
  replace v1 := cell_keep hb4 v1
  have hW4 := then_ hW3 hb4
  clear hb4 hW3 x0 x1
  go_wp2_with fail
  refine (sBits_any N A4 (bitsOf l) c4 _ _ h2 (Nat.le_refl _) hr4).mono ?_
  rintro e w5 ⟨A5, c5, rfl, hr5, hb5⟩
  replace v0 := cell_keep hb5 v0
  replace v1 := cell_keep hb5 v1
  have hW5 := then_ hW4 hb5
  clear hb5 hW4 hr4
  obtain ⟨xs, hxs⟩ : ∃ xs, xs = on N (bitsOf l) := ⟨_, rfl⟩
  have hxl := on_le N (bitsOf l)
  have Hxs := hide hxs
  rw [← hxs] at hr5 hxl ⊢
  clear hxs
  go_wp2
  go_loop [6, 29] (fun v t => ∃ k : Nat, k ≤ xs.length ∧ t = .int .i64 k ∧ v = .int .i64 (wantOf (xs.take k) i)) (fun _ t => xs.length - (intOf t).toNat)
  case atStart => exact ⟨0, Nat.zero_le _, rfl, rfl⟩
  case round =>
    obtain ⟨k, hk, rfl, rfl⟩ := hrel
    by_cases hlt : k < xs.length
    · obtain ⟨ad, rfl, hadB, hcell⟩ := hr5.get k (by rw [ints_length]; exact hlt)
      obtain ⟨x, hx⟩ : ∃ x, x = xs[k] := ⟨_, rfl⟩
      have hx2 : w5.cell? (ad.add k) = some (.int .i64 x) := by rw [hcell, hx]; simp [ints]
      have Hx : Hid (wantOf (xs.take (k + 1)) i = if wantOf (xs.take k) i < 0 ∧ i ≤ x then (x : Int) else wantOf (xs.take k) i) := by
        have e := List.take_succ_eq_append_getElem hlt
        rw [e, wantOf_snoc, ← hx]; rfl
      have i0 : (0 : Int) ≤ (k : Int) := by omega
      have i1 : (k : Int) < (xs.length : Int) := by omega
      generalize hv : wantOf (xs.take k) i = v at Hx ⊢
      clear hv hcell hx
      have Hr5 := hide hr5
      clear hr5
      by_cases hix : i ≤ x
      · have a1 : decide ((i : Int) ≤ (x : Int)) = true := decide_eq_true (by omega)
        by_cases hv0 : v < 0
        · go_wp2
          refine ⟨⟨k + 1, by omega, by first | omega | go_num, ?_⟩, by simp only [intOf]; omega⟩
          rw [Hx.out, if_pos ⟨hv0, hix⟩]
        · go_wp2
          refine ⟨⟨k + 1, by omega, by first | omega | go_num, ?_⟩, by simp only [intOf]; omega⟩
          rw [Hx.out, if_neg fun h => hv0 h.1]
      · have a1 : decide ((i : Int) ≤ (x : Int)) = false := decide_eq_false (by omega)
        go_wp2
        refine ⟨⟨k + 1, by omega, by first | omega | go_num, ?_⟩, by simp only [intOf]; omega⟩
        rw [Hx.out, if_neg fun h => hix h.2]
    · have hke : k = xs.length := by omega
      subst hke
      rw [List.take_length]
      have Hr5 := hide hr5
      clear hr5
      go_wp2_with fail
      refine (iNext_any N A l c i _ w.heap.size h2 hW5.size (hr.below hW5) hl hN hi (HT.out.keep hW5)).mono ?_
      rintro e w6 ⟨r, rfl, hn, hb6⟩
      have e6 : wantOf xs i = r := by rw [Hxs.out]; exact wantOf_next hn
      rw [e6]
      clear hn
      have hbb : (r == r) = true := by simp
      go_wp2_with fail
      go_ret
      exact ⟨rfl, then_ hW5 hb6⟩

set_option maxHeartbeats 400000 in
theorem FnNext_big (N i : Int) (A : Option Addr) (n c : Nat) (w : World) (h : 2147483647 < n) :
    Calls Tryd.prog 3 #[.agg #[.int .i64 N, .slice A n c], .int .i64 i] w fun e w' => e = .returned (.bool true) ∧ Below w.heap.size w w' := by
  go_enter Tryd.func3, Tryd.ntmps3
  go_wp2_with fail
  refine (Fits_no N A n c _ h).mono ?_
  rintro e w1 ⟨rfl, hb1⟩
  go_wp2_with fail
  go_ret
  exact ⟨rfl, then_ (then_alloc (Below.refl w.heap.size w) _) hb1⟩

set_option maxHeartbeats 800000 in
theorem FnNext_bad (N i : Int) (A : Option Addr) (l : List Int) (c : Nat) (w : World) (hr : Row w w.heap.size A (l.map (Value.int .i64))) (hl : l.length ≤ 2147483647) (hg : goodB N l = false) :
    Calls Tryd.prog 3 #[.agg #[.int .i64 N, .slice A l.length c], .int .i64 i] w fun e w' => e = .returned (.bool true) ∧ Below w.heap.size w w' := by
  have Hg := hide hg
  clear hg
  go_enter Tryd.func3, Tryd.ntmps3
  go_wp2_with fail
  refine (Fits_yes N A l.length c _ hl).mono ?_
  rintro e w1 ⟨rfl, hb1⟩
  have v0 := cell_keep hb1 (p := ⟨w.heap.size, 0, none⟩) (v := .int .i64 N) (by go_simp)
  have v1 := cell_keep hb1 (p := ⟨w.heap.size, 1, none⟩) (v := .slice A l.length c) (by go_simp)
  have hW1 := then_ (then_alloc (Below.refl w.heap.size w) _) hb1
  clear hb1
  go_wp2_with fail
  refine (conv_any N A l.length c _).mono ?_
  rintro e w2 ⟨rfl, hb2⟩
  have hW2 := then_ hW1 hb2
  have hz := lt_cell (cell_keep hb2 v0)
  clear hb2 hW1 v0 v1
  go_wp2_with fail
  refine (sGood_no N A l c _ w.heap.size (by simp; omega) (hr.below (then_alloc hW2 _)) hl Hg.out).mono ?_
  rintro e w3 ⟨rfl, hb3⟩
  have hW3 := then_ (then_alloc hW2 _) hb3
  clear hb3 hW2 hz
  go_wp2_with fail
  go_ret
  exact ⟨rfl, hW3⟩

set_option maxHeartbeats 800000 in
theorem FnNext_out (N : Nat) (i : Int) (A : Option Addr) (l : List Nat) (c : Nat) (w : World) (hr : Row w w.heap.size A (ints l)) (h1 : 1 ≤ N) (h2 : N ≤ 300) (hl : l.length ≤ 600) (hN : ∀ x ∈ l, x < N) (hi : i < 0 ∨ 600 < i) :
    Calls Tryd.prog 3 #[.agg #[.int .i64 N, .slice A l.length c], .int .i64 i] w fun e w' => e = .returned (.bool true) ∧ Below w.heap.size w w' := by
  have Hi := hide hi
  clear hi
  go_enter Tryd.func3, Tryd.ntmps3
  go_wp2_with fail
  refine (Fits_yes N A l.length c _ (by omega)).mono ?_
  rintro e w1 ⟨rfl, hb1⟩
  have v0 := cell_keep hb1 (p := ⟨w.heap.size, 0, none⟩) (v := .int .i64 N) (by go_simp)
  have v1 := cell_keep hb1 (p := ⟨w.heap.size, 1, none⟩) (v := .slice A l.length c) (by go_simp)
  have hW1 := then_ (then_alloc (Below.refl w.heap.size w) _) hb1
  clear hb1
  go_wp2_with fail
  refine (conv_any N A l.length c _).mono ?_
  rintro e w2 ⟨rfl, hb2⟩
  have hW2 := then_ hW1 hb2
  have hz := lt_cell (cell_keep hb2 v0)
  clear hb2 hW1 v0 v1
  go_wp2_with fail
  refine (sGood_yes N A l c _ w.heap.size (by simp; omega) (hr.below (then_alloc hW2 _)) h1 h2 hl hN).mono ?_
  rintro e w3 ⟨rfl, hb3⟩
  have hW3 := then_ (then_alloc hW2 _) hb3
  clear hb3 hW2 hz
  rcases Hi.out with h | h
  · go_wp2_with fail
    go_ret
    exact ⟨rfl, hW3⟩
  · have h0 : ¬ i < 0 := by omega
    go_wp2_with fail
    go_ret
    exact ⟨rfl, hW3⟩

theorem FnNext_walk (N i : Int) (A : Option Addr) (l : List Int) (c : Nat) (w : World) (hr : Row w w.heap.size A (l.map (Value.int .i64))) (hT : Tab w) :
    Calls Tryd.prog 3 #[.agg #[.int .i64 N, .slice A l.length c], .int .i64 i] w fun e w' => e = .returned (.bool true) ∧ Below w.heap.size w w' := by
  by_cases hl : l.length ≤ 2147483647
  · cases hg : goodB N l with
    | false => exact FnNext_bad N i A l c w hr hl hg
    | true =>
      obtain ⟨M, m, rfl, rfl, h1, h2, h3, h4⟩ := goodB_open hg
      rw [ints_cast] at hr
      rw [List.length_map]
      by_cases hi : i < 0 ∨ 600 < i
      · exact FnNext_out M i A m c w hr h1 h2 h3 h4 hi
      · obtain ⟨j, rfl⟩ := Int.eq_ofNat_of_zero_le (show 0 ≤ i by omega)
        exact FnNext_good M j A m c w hr h1 h2 h3 h4 (by omega) hT
  · exact FnNext_big N i A l.length c w (by omega)
end Bv
end Go.Proofs.YtjogehjgoemdpaaDoor
