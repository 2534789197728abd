/- FnWalk's walk. -/
import Derived.Test.YtjogehjgoemdpaaDoorNextc
import Derived.Test.YtjogehjgoemdpaaDoorRead
namespace Go.Proofs.YtjogehjgoemdpaaDoor
open Go.RowKit
namespace Bv

set_option maxHeartbeats 1600000 in
theorem FnWalk_good (N : Nat) (A : Option Addr) (l : List Nat) (c : Nat) (w : World) (hr : Row w w.heap.size A (ints l)) (h1 : 1 ≤ N) (h2 : N ≤ 300) (hl : l.length ≤ 600) (hN : ∀ x ∈ l, x < N) (hT : Tab w) :
    Calls Tryd.prog 4 #[.agg #[.int .i64 N, .slice A l.length c]] w fun e w' => e = .returned (.bool true) ∧ Below w.heap.size w w' := by
  have HT := hide hT
  clear hT
  go_enter Tryd.func4, Tryd.ntmps4
  go_wp2_with fail
  refine (Fits_yes N A l.length c _ (by omega)).mono ?_
  rintro e w1 ⟨rfl, hb1⟩
  have v0 := cell_keep hb1 (p := ⟨w.heap.size, 0, none⟩) (v := .int .i64 N) (by go_simp)
  have v1 := cell_keep hb1 (p := ⟨w.heap.size, 1, none⟩) (v := .slice A l.length c) (by go_simp)
  have hW1 := then_ (then_alloc (Below.refl w.heap.size w) _) hb1
  clear hb1
  go_wp2_with fail
  refine (conv_any N A l.length c _).mono ?_
  rintro e w2 ⟨rfl, hb2⟩
  replace v0 := cell_keep hb2 v0
  replace v1 := cell_keep hb2 v1
  have hW2 := then_ hW1 hb2
  have hz := lt_cell v0
  clear hb2 hW1
  go_wp2_with fail
  refine (sGood_yes N A l c _ w.heap.size (by simp; omega) (hr.below (then_alloc hW2 _)) h1 h2 hl hN).mono ?_
  rintro e w3 ⟨rfl, hb3⟩
  have x0 := cell_keep hb3 (p := ⟨w2.heap.size, 0, none⟩) (v := .int .i64 N) (by go_simp)
  have x1 := cell_keep hb3 (p := ⟨w2.heap.size, 1, none⟩) (v := .slice A l.length c) (by go_simp)
  replace v0 := cell_keep hb3 (p := ⟨w.heap.size, 0, none⟩) (v := .int .i64 N) (by go_simp)
  replace v1 := cell_keep hb3 (p := ⟨w.heap.size, 1, none⟩) (v := .slice A l.length c) (by go_simp)
  have hW3 := then_ (then_alloc hW2 _) hb3
  clear hb3 hW2 hz
  have hxl := hW3.size
  have hzv := lt_cell v0
  have hzx := lt_cell x0
  obtain ⟨i0, hi, hz0, hz1, hz2⟩ := info_parts info_int
  have Hr := hide hr
  clear hr
  go_wp2_with fail
  have hb0 : Below w3.heap.size w3 (w3.alloc (.cells #[] 3)) := then_alloc (Below.refl _ _) _
  refine (iNext_any N A l c 0 _ w.heap.size h2 (by simp; omega) (Hr.out.below (then_alloc hW3 _)) hl hN (by omega) (HT.out.keep (then_alloc hW3 _))).mono ?_
  rintro e w4 ⟨r, rfl, hn, hb4⟩
  have hown0 : w4.ownsRow w3.heap.size 3 1 (.slice (some ⟨w3.heap.size, 0, none⟩) 0 0) (on 0 (bitsOf l)).length (ints (on 0 (bitsOf l))) :=
    (World.ownsRow_made w3 #[] 0 (Nat.le_refl _) (by decide) rfl).kept (grown_of_below (row := none) hb4) (Or.inr (by simp [Value.ownBlock]))
  have hbl0 := then_ hb0 hb4
  generalize hf : bitsOf l = f at hn hown0
  have Hf := hide hf
  clear hf hb4 hb0
  go_wp2_with fail
  go_loopw [4, 5] (fun v t wr => ∃ (k : Nat) (r : Int), k ≤ N ∧ t = .int .i64 r ∧ NextIs N f k r ∧ wr.ownsRow w3.heap.size 3 1 v (on k f).length (ints (on k f)) ∧ Below w3.heap.size w3 wr)
    (fun _ t _ => if intOf t < 0 then 0 else N + 1 - (intOf t).toNat)
  case atStart => exact ⟨0, r, Nat.zero_le _, rfl, hn, hown0, hbl0⟩
  case round =>
    clear hn hown0 hbl0
    obtain ⟨k, r, hk, rfl, hn, hown, hbl⟩ := hrel
    have hol := on_le k f
    have hsz := hbl.size
    have k0 := cell_keep hbl v0
    have k1 := cell_keep hbl v1
    have y0 := cell_keep hbl x0
    have y1 := cell_keep hbl x1
    have V0 := hide v0
    have V1 := hide v1
    have X0 := hide x0
    have X1 := hide x1
    clear v0 v1 x0 x1
    rcases hn with ⟨rfl, hz⟩ | ⟨m, rfl, hm1, hm2, hm3, hm4⟩
    · have e1 : on k f = on N f := (on_skip N hk hz).symm
      rw [e1] at hown
      clear hz e1
      obtain ⟨A', c', hv, hrow⟩ := own_row hown
      subst hv
      have Hrow := hide hrow
      have Hbl := hide hbl
      clear hown hrow hbl
      go_wp2_with fail
      have hW5 := then_ hW3 Hbl.out
      refine (sTruths_any N A l c _ w.heap.size h2 hW5.size (Hr.out.below hW5) hl hN).mono ?_
      rintro e w5 ⟨A5, c5, rfl, hr5, hb5⟩
      have hW6 := then_ hW5 hb5
      have hrow5 := Hrow.out.below hb5
      have hs5 := hb5.size
      clear hb5 hW5 k0 k1 y0 y1
      go_wp2_with fail
      refine (sBits_any N A5 (bitsOf l) c5 _ _ h2 (Nat.le_refl _) hr5).mono ?_
      rintro e w6 ⟨A6, c6, rfl, hr6, hb6⟩
      have hW7 := then_ hW6 hb6
      have hrow6 := hrow5.below (hb6.mono hs5)
      have hs6 := hb6.size
      clear hb6 hW6 hr5 hrow5
      go_wp2_with fail
      refine (sSame_any A' A6 (on N f) (on N (bitsOf l)) c' c6 _ _ (Nat.le_refl _) (hrow6.mono (by omega)) hr6 (Nat.le_trans (on_le _ _) (by omega)) (Nat.le_trans (on_le _ _) (by omega))).mono ?_
      rintro e w7 ⟨rfl, hb7⟩
      have hs : sameB (on N f) (on N (bitsOf l)) = true := by rw [Hf.out]; simp [sameB]
      rw [hs]
      clear hs
      go_wp2_with fail
      go_ret
      exact ⟨rfl, then_ hW7 hb7⟩
    · have e1 : on (m + 1) f = on k f ++ [m] := by rw [on_succ, hm3, on_skip m hm1 hm4]; rfl
      have Hon := hide e1
      clear e1 hm3 hm4
      obtain ⟨A', c', hv, hrow⟩ := own_row hown
      subst hv
      clear hrow
      go_wp2_with (at_builtin; refine wpList_append_own _ rfl _ _ 22 rfl w3.heap.size 3 i0 (.int .i64 0) 1 8 Tryd.underlying22 hi hz0 hz1 hz2 rfl (by decide) _ _ _ rfl (hown.alloc _) ⟨wr.heap.size, 0, none⟩ 1 1 [.int .i64 (m : Int)] rfl rfl ?c1 ?c2 ?c3 ?c4 ?c5 ?_)
      case c1 =>
        intro j u hj
        match j, hj with
        | 0, hj => simp at hj; subst hj; simp [Addr.add]
      case c2 => intro u hu; simp at hu; subst hu; rfl
      case c3 => unfold maxLen; omega
      case c4 => omega
      case c5 => simp; omega
      intro v' w5 hown' hgrow _
      have hb5 : Below w3.heap.size w3 w5 := (hbl.alloc (by omega) _).grown hgrow (by simp; omega) (fun g hg => (hown.lt g hg).1)
      have hown2 : w5.ownsRow w3.heap.size 3 1 v' (on (m + 1) f).length (ints (on (m + 1) f)) := by
        rw [Hon.out, ints_snoc, List.length_append]
        exact hown'
      have k0 := cell_keep hb5 V0.out
      have k1 := cell_keep hb5 V1.out
      clear hown' hgrow hown hbl y0 y1
      have hW5 := then_ hW3 hb5
      go_wp2_with fail
      refine (iNext_int N A l c (m + 1) _ (by omega) _ w.heap.size h2 hW5.size (Hr.out.below hW5) hl hN (by omega) (HT.out.keep hW5)).mono ?_
      rintro e w6 ⟨r, rfl, hn, hb6⟩
      have hown3 := hown2.kept (grown_of_below (row := none) hb6) (by
        rcases hq : v'.ownBlock with _ | x
        · exact Or.inl rfl
        · exact Or.inr (by simp))
      have hb7 := then_ hb5 hb6
      rw [Hf.out] at hn
      have hr0 : intOf (.int .i64 r) = r := rfl
      have Hn := hide hn
      have hbd := hn.bounds
      clear hn hown2 hb5 hb6 hW5 k0 k1
      go_wp2_with fail
      go_roundw
      case rel => exact ⟨m + 1, r, by omega, rfl, Hn.out, hown3, hb7⟩
      case measure =>
        have hn2 : r = -1 ∨ (m : Int) < r := by
          rcases Hn.out with ⟨rfl, _⟩ | ⟨q, rfl, hq, _⟩
          · exact .inl rfl
          · exact .inr (by omega)
        have hm0 : intOf (.int .i64 (m : Int)) = m := rfl
        simp only [hr0, hm0]
        split <;> split <;> omega

set_option maxHeartbeats 400000 in
theorem FnWalk_big (N : Int) (A : Option Addr) (n c : Nat) (w : World) (h : 2147483647 < n) :
    Calls Tryd.prog 4 #[.agg #[.int .i64 N, .slice A n c]] w fun e w' => e = .returned (.bool true) ∧ Below w.heap.size w w' := by
  go_enter Tryd.func4, Tryd.ntmps4
  go_wp2_with fail
  refine (Fits_no N A n c _ h).mono ?_
  rintro e w1 ⟨rfl, hb1⟩
  go_wp2_with fail
  go_ret
  exact ⟨rfl, then_ (then_alloc (Below.refl w.heap.size w) _) hb1⟩

set_option maxHeartbeats 800000 in
theorem FnWalk_bad (N : Int) (A : Option Addr) (l : List Int) (c : Nat) (w : World) (hr : Row w w.heap.size A (l.map (Value.int .i64))) (hl : l.length ≤ 2147483647) (hg : goodB N l = false) :
    Calls Tryd.prog 4 #[.agg #[.int .i64 N, .slice A l.length c]] w fun e w' => e = .returned (.bool true) ∧ Below w.heap.size w w' := by
  have Hg := hide hg
  clear hg
  go_enter Tryd.func4, Tryd.ntmps4
  go_wp2_with fail
  refine (Fits_yes N A l.length c _ hl).mono ?_
  rintro e w1 ⟨rfl, hb1⟩
  have v0 := cell_keep hb1 (p := ⟨w.heap.size, 0, none⟩) (v := .int .i64 N) (by go_simp)
  have v1 := cell_keep hb1 (p := ⟨w.heap.size, 1, none⟩) (v := .slice A l.length c) (by go_simp)
  have hW1 := then_ (then_alloc (Below.refl w.heap.size w) _) hb1
  clear hb1
  go_wp2_with fail
  refine (conv_any N A l.length c _).mono ?_
  rintro e w2 ⟨rfl, hb2⟩
  have hW2 := then_ hW1 hb2
  have hz := lt_cell (cell_keep hb2 v0)
  clear hb2 hW1 v0 v1
  go_wp2_with fail
  refine (sGood_no N A l c _ w.heap.size (by simp; omega) (hr.below (then_alloc hW2 _)) hl Hg.out).mono ?_
  rintro e w3 ⟨rfl, hb3⟩
  have hW3 := then_ (then_alloc hW2 _) hb3
  clear hb3 hW2 hz
  go_wp2_with fail
  go_ret
  exact ⟨rfl, hW3⟩

theorem FnWalk_walk (N : Int) (A : Option Addr) (l : List Int) (c : Nat) (w : World) (hr : Row w w.heap.size A (l.map (Value.int .i64))) (hT : Tab w) :
    Calls Tryd.prog 4 #[.agg #[.int .i64 N, .slice A l.length c]] w fun e w' => e = .returned (.bool true) ∧ Below w.heap.size w w' := by
  by_cases hl : l.length ≤ 2147483647
  · cases hg : goodB N l with
    | false => exact FnWalk_bad N A l c w hr hl hg
    | true =>
      obtain ⟨M, m, rfl, rfl, h1, h2, h3, h4⟩ := goodB_open hg
      rw [ints_cast] at hr
      rw [List.length_map]
      exact FnWalk_good M A m c w hr h1 h2 h3 h4 hT
  · exact FnWalk_big N A l.length c w (by omega)
end Bv
end Go.Proofs.YtjogehjgoemdpaaDoor
