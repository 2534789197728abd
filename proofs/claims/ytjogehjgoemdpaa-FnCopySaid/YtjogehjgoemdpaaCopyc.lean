/- Contract of the thin package's Copy: both lists of places that it gives. -/
import Derived.Test.YtjogehjgoemdpaaTwo
import Derived.Deep.DeepCutAuto
namespace Go.Proofs.Ytjogehjgoemdpaa
open Go.RowKit
namespace Bv

set_option maxHeartbeats 12800000 in
theorem iCopy_any (N : Nat) (A A' : Option Addr) (l l' : List Nat) (c c' : Nat) (w : World) (B : Nat) (h1 : 1 ≤ N) (h2 : N ≤ 300) (hB : B ≤ w.heap.size) (hr : Row w B A (ints l)) (hl : l.length ≤ 600) (hN : ∀ x ∈ l, x < N)
    (hr' : Row w B A' (ints l')) (hl' : l'.length ≤ 600) (hN' : ∀ x ∈ l', x < N) :
    Calls Try.prog 33 #[.agg #[.int .i64 N, .slice A l.length c], .agg #[.int .i64 N, .slice A' l'.length c']] w fun e w' =>
      ∃ A1 c1 A2 c2, e = .returned (.tuple #[.slice A1 (on N (bitsOf l')).length c1, .slice A2 N c2]) ∧ Row w' w'.heap.size A1 (ints (on N (bitsOf l'))) ∧ Below w.heap.size w w' := by
  go_enter Try.func33, Try.ntmps33
  go_upto_region 1 with fail
  generalize hW : (w.alloc _).alloc _ = W
  have a0 : W.cell? ⟨w.heap.size, 0, none⟩ = some (.int .i64 N) := by rw [← hW]; clear hW; go_simp
  have a1 : W.cell? ⟨w.heap.size, 1, none⟩ = some (.slice A l.length c) := by rw [← hW]; clear hW; go_simp
  have b0 : W.cell? ⟨w.heap.size + 1, 0, none⟩ = some (.int .i64 N) := by rw [← hW]; clear hW; go_simp
  have b1 : W.cell? ⟨w.heap.size + 1, 1, none⟩ = some (.slice A' l'.length c') := by rw [← hW]; clear hW; go_simp
  have hbW : Below w.heap.size w W := by rw [← hW]; exact then_alloc (then_alloc (Below.refl _ _) _) _
  clear hW
  have HS : Hid (∀ w', Below W.heap.size W w' → w'.cell? ⟨w.heap.size, 0, none⟩ = some (.int .i64 N) ∧ w'.cell? ⟨w.heap.size, 1, none⟩ = some (.slice A l.length c) ∧ w'.cell? ⟨w.heap.size + 1, 0, none⟩ = some (.int .i64 N) ∧ w'.cell? ⟨w.heap.size + 1, 1, none⟩ = some (.slice A' l'.length c') ∧ Below W.heap.size W w') :=
    fun w' h => ⟨cell_keep h a0, cell_keep h a1, cell_keep h b0, cell_keep h b1, h⟩
  have HR : Hid (∀ w', Below W.heap.size W w' → Row w' B A (ints l)) := fun w' h => hr.below ((then_ hbW h).mono hB)
  have HR' : Hid (∀ w', Below W.heap.size W w' → Row w' B A' (ints l')) := fun w' h => hr'.below ((then_ hbW h).mono hB)
  have HB : Hid (∀ w', Below W.heap.size W w' → B ≤ w'.heap.size) := fun w' h => Nat.le_trans hB (then_ hbW h).size
  clear hr hr'
  go_cut [6, 7] (fun s s' X => TwoBoxes W X N (bitsOf l) (bitsOf l') s s')
  case first =>
    have tok : True := trivial
    go_region_held3 (fun w' => w'.cell? ⟨w.heap.size, 0, none⟩ = some (.int .i64 N) ∧ w'.cell? ⟨w.heap.size, 1, none⟩ = some (.slice A l.length c) ∧ w'.cell? ⟨w.heap.size + 1, 0, none⟩ = some (.int .i64 N) ∧ w'.cell? ⟨w.heap.size + 1, 1, none⟩ = some (.slice A' l'.length c') ∧ Below W.heap.size W w')
      (first
        | assumption
        | exact HS.out _ (Below.refl _ _).drew
        | (go_split_ands; refine HS.out _ ?_; (repeat' (first | with_reducible assumption | with_reducible exact Below.refl _ _ | with_reducible refine Below.drew ?_ | with_reducible refine then_alloc ?_ _ | with_reducible refine Below.setCell ?_ ?_ _)); all_goals (dsimp only; omega)))
      (first
        | (go_at_call 45; have _t := tok; go_split_ands; refine (build_any N A l c _ B h2 (HB.out _ ‹_›) (HR.out _ ‹_›) hl hN).mono ?_; rintro e wd ⟨g, rfl, hg, hv, hbd⟩; (try simp at hg); have hbe := next_ hbd ‹_›; have hse := hbe.size; have hgl := hv.lt
           first
             | (have hz := box0_2 (n := W.heap.size) (m := W.heap.size + 1) hbd rfl rfl; obtain ⟨zA, zB⟩ := hz)
             | (have hz := box0_2 (n := W.heap.size) (m := W.heap.size + 1) (undrew hbd) rfl rfl; obtain ⟨zA, zB⟩ := hz)
             | (have zA := box0_1 (n := W.heap.size) hbd rfl)
             | (have zA := box0_1 (n := W.heap.size) (undrew hbd) rfl)
             | skip
           clear tok)
        | (go_at_call 45; go_split_ands; refine (build_any N A' l' c' _ B h2 (HB.out _ ‹_›) (HR'.out _ ‹_›) hl' hN').mono ?_; rintro e we ⟨g', rfl, hg', hv', hbd'⟩; (try simp at hg'); have hbe' := next_ hbd' ‹_›; have hse' := hbe'.size; have hgl' := hv'.lt
           first
             | with_reducible have hk := below_two hbd'
             | with_reducible have hk := below_one hbd'
             | have hk : Below wd.heap.size wd we := hbd'
           have hks := hk.size
           have hvk := hv.keep hk
           first
             | (have yA := zA.keep hk; have yB := zB.keep hk; have hyl := lt_cell yA.1; have hzl := lt_cell zA.1; obtain ⟨y0, y1, y2, y3⟩ := yA; have hxl := lt_cell yB.1; obtain ⟨x0, x1, x2, x3⟩ := yB)
             | (have yA := zA.keep hk; have yB := box0_1 (n := wd.heap.size) hbd' rfl; have hyl := lt_cell yA.1; have hzl := lt_cell zA.1; obtain ⟨y0, y1, y2, y3⟩ := yA; have hxl := lt_cell yB.1; obtain ⟨x0, x1, x2, x3⟩ := yB)
             | (have yA := zA.keep hk; have hyl := lt_cell yA.1; have hzl := lt_cell zA.1; obtain ⟨y0, y1, y2, y3⟩ := yA)
             | (have hz := box0_2 (n := wd.heap.size) (m := wd.heap.size + 1) hbd' rfl rfl; obtain ⟨yA, yB⟩ := hz; have hyl := lt_cell yA.1; obtain ⟨y0, y1, y2, y3⟩ := yA; have hxl := lt_cell yB.1; obtain ⟨x0, x1, x2, x3⟩ := yB)
             | (have yA := box0_1 (n := wd.heap.size) hbd' rfl; have hyl := lt_cell yA.1; obtain ⟨y0, y1, y2, y3⟩ := yA)
             | skip))
    all_goals
      go_wp2_with fail
      go_meet
      first
        | (with_reducible refine tb_alloc rfl rfl rfl hvk hv' hbe' ?_ ?_ ?_ <;> omega)
        | (with_reducible refine TwoBoxes.swap (tb_alloc rfl rfl rfl hv' hvk hbe' ?_ ?_ ?_) <;> omega)
        | (with_reducible refine tb_set rfl rfl rfl hvk hv' hbe' ?_ ?_ ?_ ?_ ?_ ?_ ?_ ?_ <;> first | with_reducible assumption | omega)
        | (with_reducible refine TwoBoxes.swap (tb_set rfl rfl rfl hv' hvk hbe' ?_ ?_ ?_ ?_ ?_ ?_ ?_ ?_) <;> first | with_reducible assumption | omega)
        | (with_reducible refine tb_both rfl rfl rfl hvk hv' hbe' ?_ ?_ ?_ ?_ ?_ ?_ ?_ ?_ ?_ ?_ ?_ ?_ ?_ ?_ <;> first | with_reducible assumption | omega)
  obtain ⟨p, q, g, g', rfl, rfl, ⟨p0, p1⟩, ⟨q0, q1⟩, hv, hv', ⟨n1, n2, n3, n4, n5⟩, ⟨hg, hg'⟩, hO⟩ := hcut
  obtain ⟨_, _, b0, b1, _⟩ := HS.out _ hO
  have hW := then_ hbW hO
  have hs0 := hbW.size
  have hpl := lt_cell p0
  have hql := lt_cell q0
  have hbl := lt_cell b0
  have hgl := hv.lt
  have hgl' := hv'.lt
  clear HS HR HR' HB a0 a1 hO hbW
  have hw0 := lt_cell ‹W.cell? ⟨w.heap.size + 1, 0, none⟩ = _›
  go_wp2_with fail
  refine (mCopy_any N g 0 _ g' 0 _ _ _ _ hv hv').mono ?_
  rintro e w2 ⟨rfl, hv2, ho2⟩
  have hv2' := ho2.vec hv' (Or.inl n1.symm)
  have p0 := far_cell ho2 p0 n2
  have p1 := far_cell ho2 p1 n2
  have q0 := far_cell ho2 q0 n4
  have q1 := far_cell ho2 q1 n4
  have b0 := far_cell ho2 b0 (by omega)
  have b1 := far_cell ho2 b1 (by omega)
  have hW2 := Wrote.below hW ho2 (by omega)
  have hs2 := ho2.grown.size
  clear ho2 hv hv' hW
  go_wp2_with fail
  go_loopw [18] (fun i wr => ∃ k : Nat, k ≤ N ∧ i = .int .i64 k ∧ Vec wr g' 0 N (fun j => bitsOf l' j || decide (j < k)) ∧ Only w2 wr g' 0 ((N + 31) / 32))
    (fun i _ => N - (intOf i).toNat)
  case atStart => exact ⟨0, Nat.zero_le _, rfl, by simpa using hv2', Only.refl _ _ _ _⟩
  case round =>
    obtain ⟨k, hk, rfl, hvr, ho⟩ := hrel
    have r0 := far_cell ho q0 n5
    have r1 := far_cell ho q1 n5
    by_cases hlt : k < N
    · have Hf : Hid (upd (fun j => bitsOf l' j || decide (j < k)) k true = fun j => bitsOf l' j || decide (j < k + 1)) := by
        unfold Hid
        funext j
        unfold upd
        by_cases hj : j = k
        · subst hj; simp
        · have e1 : decide (j < k + 1) = decide (j < k) := by rw [decide_eq_decide]; omega
          rw [if_neg hj, e1]
      go_wp2_with fail
      refine (mSet_nat N k g' 0 _ _ _ hlt h2 hvr).mono ?_
      rintro e w3 ⟨rfl, hv3, ho3⟩
      rw [Hf.out] at hv3
      have ho4 := ho.trans ho3
      clear ho ho3 hvr r0 r1
      go_wp2_with fail
      go_roundw
      case rel => exact ⟨k + 1, by omega, by go_num, hv3, ho4⟩
      case measure => simp [intOf]; omega
    · have hke : k = N := by omega
      subst hke
      have u0 := far_cell ho p0 n3
      have u1 := far_cell ho p1 n3
      have hvp := ho.vec hv2 (Or.inl n1)
      have hW4 := Wrote.below hW2 ho (by omega)
      have hlen : (on k (fun j => bitsOf l' j || decide (j < k))).length = k := by
        rw [on_congr (g := fun _ => true) fun i hi => by simp [hi]]
        rw [on, List.filter_eq_self.2 fun _ _ => rfl, List.length_range]
      have HS : Hid (∀ w', Below wr.heap.size wr w' → w'.cell? ⟨p, 0, none⟩ = some (.int .i32 k) ∧ w'.cell? ⟨p, 1, none⟩ = some (.slice (some ⟨g, 0, none⟩) ((k + 31) / 32) ((k + 31) / 32)) ∧ w'.cell? ⟨q, 0, none⟩ = some (.int .i32 k) ∧ w'.cell? ⟨q, 1, none⟩ = some (.slice (some ⟨g', 0, none⟩) ((k + 31) / 32) ((k + 31) / 32)) ∧ Below wr.heap.size wr w') :=
        fun w' h => ⟨cell_keep h u0, cell_keep h u1, cell_keep h r0, cell_keep h r1, h⟩
      have HV : Hid (∀ w', Below wr.heap.size wr w' → Vec w' g 0 k (bitsOf l') ∧ Vec w' g' 0 k (fun j => bitsOf l' j || decide (j < k))) := fun w' h => ⟨hvp.keep h, hvr.keep h⟩
      have Hlen := hide hlen
      have tok : True := trivial
      clear p0 p1 q0 q1 b0 b1 hlen
      go_upto_region 8 with fail
      go_region_held3 (fun w' => w'.cell? ⟨p, 0, none⟩ = some (.int .i32 k) ∧ w'.cell? ⟨p, 1, none⟩ = some (.slice (some ⟨g, 0, none⟩) ((k + 31) / 32) ((k + 31) / 32)) ∧ w'.cell? ⟨q, 0, none⟩ = some (.int .i32 k) ∧ w'.cell? ⟨q, 1, none⟩ = some (.slice (some ⟨g', 0, none⟩) ((k + 31) / 32) ((k + 31) / 32)) ∧ Below wr.heap.size wr w')
        (first
          | assumption
          | exact HS.out _ (Below.refl _ _).drew
          | (go_split_ands; exact HS.out _ (next_ ‹_› ‹_›)))
        (first
          | (go_at_call 51; have _t := tok; go_split_ands; refine (bits_any k g 0 _ _ _ h2 (HV.out _ ‹_›).1).mono ?_; rintro e w5 ⟨A5, c5, rfl, hr5, hb5⟩; clear tok)
          | (go_at_call 51; go_split_ands; refine (bits_any k g' 0 _ _ _ h2 (HV.out _ ‹_›).2).mono ?_; rintro e w6 ⟨A6, c6, rfl, hr6, hb6⟩))
      go_split_ands
      have hb7 := (‹Below wr.heap.size wr w6›)
      go_wp2
      go_ret2
      refine ⟨A5, c5, A6, c6, ?_, (hr5.below hb6).mono hb6.size, then_ hW4 hb7⟩
      rw [Hlen.out]
      rfl
end Bv
end Go.Proofs.Ytjogehjgoemdpaa
