/- Contract of the reference's Run. -/
import Derived.Test.YtjogehjgoemdpaaSBank
import Derived.Deep.RegionHeld3
import Derived.Deep.DeepCutAuto
namespace Go.Proofs.Ytjogehjgoemdpaa
open Go.RowKit
namespace Bv

theorem info_bools : (Try.prog.info? 33).map (fun i => (i.zero, i.size, i.bytes)) = some (some (.slice none 0 0), 1, 24) := by kernel_rfl

/-- k lists of truths were made. -/
def MadeAt (w wt : World) (N Z : Nat) (v : Value) (k : Nat) : Prop :=
  ∃ xs : List Value, xs.length = k ∧ wt.ownsRow Z 33 1 v k xs ∧ BoolRows wt xs N (fun _ _ => false) ∧ Below w.heap.size w wt ∧ Z ≤ wt.heap.size
/-- k lists of places were given. -/
def TellAt (w wt : World) (N C L Z : Nat) (F : Nat → Nat → Bool) (v : Value) (k : Nat) : Prop :=
  ∃ outs : List Value, outs.length = k ∧ wt.ownsRow Z 22 1 v k outs ∧ KindLists wt outs N F ∧ SBank w wt N C L Z F

set_option maxRecDepth 10000 in
set_option maxHeartbeats 6400000 in
theorem sRun_any (N C : Nat) (m : List St) (A : Option Addr) (c : Nat) (w : World) (h1 : 1 ≤ N) (h2 : N ≤ 300) (c1 : 1 ≤ C) (c2 : C ≤ 6) (hl : m.length ≤ 40) (hg : ∀ s ∈ m, s.good N C) (hr : Row w w.heap.size A (flat (m.map St.toSI))) :
    Calls Try.prog 44 #[.int .i64 N, .int .i64 C, .slice A m.length c] w (GivesLists w N C (runAll m)) := by
  have hmk : ∀ W : World, (Instr.makeSlice 33 (.int .i64 (N : Int)) (.int .i64 (N : Int))).run Try.prog W =
      .ok (.slice (some ⟨W.heap.size, 0, none⟩) N N) (W.alloc (.cells (madeCells #[Value.bool false] N) 4)) := fun W =>
    run_make_row' 33 4 (.bool false) 1 Try.underlying33 info_bool rfl .i64 .i64 N (by omega) (by omega) W
  obtain ⟨i0, hi, hz0, hz1, hz2⟩ := info_parts info_bools
  obtain ⟨ib, hib, hb0, hb1, hb2⟩ := info_parts info_bool
  have Hr := hide hr
  have Hg := hide hg
  clear hr hg
  go_enter Try.func44, Try.ntmps44
  go_wp2_with fail
  go_loopw [7, 16] (fun v i wt => ∃ k : Nat, k ≤ C ∧ i = .int .i64 k ∧ MadeAt w wt N w.heap.size v k) (fun _ i _ => C - (intOf i).toNat)
  case atStart => exact ⟨0, Nat.zero_le _, rfl, [], rfl, World.ownsRow_made w #[] 0 (Nat.le_refl _) (by decide) rfl, fun t ht => by simp at ht, then_alloc (Below.refl _ _) _, by simp⟩
  case round =>
    obtain ⟨k, hk, rfl, xs, hxl, hown, hxs, hbl, hws⟩ := hrel
    by_cases hlt : k < C
    · have hb1 := then_alloc (Below.refl wr.heap.size wr) (.cells (madeCells #[Value.bool false] N) 4)
      have Hxs := hide (hxs.keep hb1)
      have Hbl := hide (then_ hbl hb1)
      have hrow := World.rowIs_made wr (.bool false) N 4
      have Hrow := hide hrow
      have hown1 := hown.alloc (.cells (madeCells #[Value.bool false] N) 4)
      have hs1 : wr.heap.size < (wr.alloc (.cells (madeCells #[Value.bool false] N) 4)).heap.size := by simp
      clear hxs hbl hrow hown hb1
      go_wp2_with (at_builtin; refine wpList_append_own _ rfl _ _ 76 rfl w.heap.size 33 i0 (.slice none 0 0) 1 24 Try.underlying76 hi hz0 hz1 hz2 rfl (by decide) _ _ _ rfl (hown1.alloc _) ⟨wr.heap.size + 1, 0, none⟩ 1 1 [.slice (some ⟨wr.heap.size, 0, none⟩) N N] rfl rfl ?c1 ?c2 ?c3 ?c4 ?c5 ?_)
      case c1 =>
        intro j u hj
        match j, hj with
        | 0, hj => simp at hj; subst hj; simp [Addr.add]
        | j + 1, hj => simp at hj
      case c2 =>
        intro u hu
        simp at hu
        subst hu
        rfl
      case c3 => unfold maxLen; omega
      case c4 => omega
      case c5 => simp; omega
      intro v' w3 hown' hgrow _
      have hmade : MadeAt w w3 N w.heap.size v' (k + 1) := by
        have hs3 := hgrow.size
        simp only [World.size_alloc] at hs3
        have h5 := then_alloc (Below.refl _ (wr.alloc (.cells (madeCells #[Value.bool false] N) 4))) (.cells #[.slice (some ⟨wr.heap.size, 0, none⟩) N N] 33)
        refine ⟨_, ?_, hown', (Hxs.out.keep h5).snoc (hown1.alloc _) (by decide) hgrow (((row_of_rowIs Hrow.out).below h5).mono h5.size) ((typed_rowIs Hrow.out).keep h5), ?_, by omega⟩
        · simp [hxl]
        · exact (then_ Hbl.out h5).grown hgrow (by simp; omega) (fun x hx => (hown1.lt x hx).1)
      have Hmade := hide hmade
      clear hown' hgrow hown1 hmade hxl Hxs Hbl Hrow hs1
      go_wp2
      go_roundw
      case rel => exact ⟨k + 1, by omega, by go_num, Hmade.out⟩
      case measure => simp [intOf]; omega
    · have hke : C = k := by omega
      subst hke
      obtain ⟨L, cL, rfl, hLb, hLl, hLc, hLf⟩ := own_form hown c1
      subst hxl
      have Hsb := hide (hxs.bank hLc hLf hLl hbl hLb)
      clear hown hxs hbl hlt hk hws hLc hLf hLl
      generalize hC : xs.length = C at *
      clear hC
      go_wp2_with fail
      go_loopw [26] (fun i wt => ∃ j : Nat, j ≤ m.length ∧ i = .int .i64 j ∧ SBank w wt N C L wt.heap.size (runAll (m.take j))) (fun i _ => m.length - (intOf i).toNat)
      case atStart => exact ⟨0, Nat.zero_le _, rfl, Hsb.out⟩
      case round =>
        obtain ⟨j, hj, rfl, hsb⟩ := hrel
        obtain ⟨F, hF⟩ : ∃ F, F = runAll (m.take j) := ⟨_, rfl⟩
        rw [← hF] at hsb
        by_cases hlt : j < m.length
        · obtain ⟨ad, rfl, hadB, s0, s1, s2, s3, s4⟩ := step_cells (Hr.out.below hsb.below) (k := j) (by simpa using hlt)
          obtain ⟨s, hs⟩ : ∃ s, s = m[j] := ⟨_, rfl⟩
          have hse : (m.map St.toSI)[j]'(by simpa using hlt) = s.toSI := by simp [hs]
          rw [hse] at s0 s1 s2 s3 s4
          obtain ⟨o7, ht, ha, hb, hbit⟩ := Hg.out s (hs ▸ List.getElem_mem _)
          have Hx : Hid (runAll (m.take (j + 1)) = stepAll F s) := by
            rw [List.take_succ_eq_append_getElem hlt, runAll_snoc, hs, hF]; rfl
          obtain ⟨op, d, a, b, bit⟩ := s
          simp only [St.toSI] at s0 s1 s2 s3 s4 o7 ht ha hb hbit
          obtain ⟨Ad, cd, x0, xr⟩ := hsb.row _ ht
          obtain ⟨Aa, ca, y0, yr⟩ := hsb.row _ ha
          obtain ⟨Ab, cb, z0, zr⟩ := hsb.row _ hb
          obtain ⟨dd, rfl, _, _⟩ := xr.get 0 (by rw [truths_length]; omega)
          obtain ⟨da, rfl, _, _⟩ := yr.get 0 (by rw [truths_length]; omega)
          have hLt := hsb.lt
          have Hsb1 := hide hsb
          have Xr := hide xr
          have Yr := hide yr
          have Zr := hide zr
          have j0 : (0 : Int) ≤ (j : Int) := by omega
          have j1 : (j : Int) < (m.length : Int) := by omega
          have t0 : (0 : Int) ≤ (d : Int) := by omega
          have t1 : (d : Int) < (C : Int) := by omega
          have a0 : (0 : Int) ≤ (a : Int) := by omega
          have a1 : (a : Int) < (C : Int) := by omega
          have b0 : (0 : Int) ≤ (b : Int) := by omega
          have b1 : (b : Int) < (C : Int) := by omega
          clear hsb hs hse hF xr yr zr Hsb
          go_upto_region 9 with fail
          generalize hX : wr.alloc _ = X
          have p0 : X.cell? ⟨wr.heap.size, 0, none⟩ = some (.int .i64 op) := by rw [← hX]; exact new_cell rfl
          have p1 : X.cell? ⟨wr.heap.size, 1, none⟩ = some (.int .i64 d) := by rw [← hX]; exact new_cell rfl
          have p2 : X.cell? ⟨wr.heap.size, 2, none⟩ = some (.int .i64 a) := by rw [← hX]; exact new_cell rfl
          have p3 : X.cell? ⟨wr.heap.size, 3, none⟩ = some (.int .i64 b) := by rw [← hX]; exact new_cell rfl
          have p4 : X.cell? ⟨wr.heap.size, 4, none⟩ = some (.int .i64 bit) := by rw [← hX]; exact new_cell rfl
          have hbX : Below wr.heap.size wr X := by rw [← hX]; exact then_alloc (Below.refl _ _) _
          have hXs : wr.heap.size < X.heap.size := by rw [← hX]; simp
          clear hX
          have x0 := cell_keep hbX x0
          have y0 := cell_keep hbX y0
          have z0 := cell_keep hbX z0
          have hY := then_alloc (Below.refl X.heap.size X) (.cells #[] 4)
          have hownE := World.ownsRow_made (base := X.heap.size) (e := 4) (size := 1) X #[] 0 (Nat.le_refl _) (by decide) rfl
          have hnews : ∀ (j : Nat) (u : Value), (truths N (F d))[j]? = some u → (X.alloc (.cells #[] 4)).cell? (dd.add j) = some u := fun j u hj => by
            obtain ⟨ad', e, _, hc⟩ := (Xr.out.below hbX).below (hY.mono (Nat.le_of_lt hXs)) j u hj
            injection e with e
            subst e
            exact hc
          have Hnews := hide hnews
          have hLX : L < X.heap.size := by omega
          have HbX := hide hbX
          clear s0 s1 s2 s3 s4 hbX hnews hadB
          go_wp2_with (at_builtin; refine wpList_append_own _ rfl _ _ 33 rfl X.heap.size 4 ib (.bool false) 1 1 Try.underlying33 hib hb0 hb1 hb2 rfl (by decide) _ _ _ rfl hownE dd N cd (truths N (F d)) rfl (by rw [truths_length, Nat.mul_one]) Hnews.out ?c2 ?c3 ?c4 ?c5 ?_)
          case c2 =>
            intro u hu
            obtain ⟨z, _, rfl⟩ := List.mem_map.1 hu
            rfl
          case c3 => unfold maxLen; omega
          case c4 => omega
          case c5 => simp
          intro v' w3 hown' hgrow _
          have hb3 : Below X.heap.size X w3 := hY.grown hgrow (by simp) (fun x hx => (hownE.lt x hx).1)
          obtain ⟨L2, c5, rfl, hL2, hL2l, hr2, hf2, hc2, hput⟩ := own_truths hown' h1
          have p0 := cell_keep hb3 p0
          have p1 := cell_keep hb3 p1
          have p2 := cell_keep hb3 p2
          have p3 := cell_keep hb3 p3
          have p4 := cell_keep hb3 p4
          have x0 := cell_keep hb3 x0
          have y0 := cell_keep hb3 y0
          have z0 := cell_keep hb3 z0
          have hb4 : Below wr.heap.size wr w3 := HbX.out.trans (hb3.mono (Nat.le_of_lt hXs))
          have hsb := Hsb1.out.keep hb4
          have yr := Yr.out.below hb4
          have zr := Zr.out.below hb4
          have hLf := hsb.free d
          have hle := hb4.size
          have hbf := hf2 bit
          have hbc := hc2 bit hbit
          have Hsb2 := hide hsb
          have Hr2 := hide hr2
          have Hput := hide hput
          have Yr2 := hide yr
          have Zr2 := hide zr
          have n1 : L2 ≠ L := by omega
          have n2 : L2 ≠ wr.heap.size := by omega
          have n3 : wr.heap.size ≠ L := by omega
          clear hownE hown' hgrow hb3 hb4 hsb hr2 hf2 hc2 hput yr zr Hnews HbX Hsb1 Xr Yr Zr hY
          rcases (show op = 0 ∨ op = 1 ∨ op = 2 ∨ op = 3 ∨ op = 4 ∨ op = 5 ∨ op = 6 ∨ op = 7 by omega) with rfl | rfl | rfl | rfl | rfl | rfl | rfl | rfl
          · have p0 : w3.cell? ⟨wr.heap.size, 0, none⟩ = some (.int .i64 0) := p0
            have hfin : SBank w ((w3.setCell ⟨L2, bit, none⟩ (.bool true)).setCell ⟨L, d, none⟩ (.slice (some ⟨L2, 0, none⟩) N c5)) N C L w3.heap.size (runAll (m.take (j + 1))) := by
              rw [Hx.out]
              exact (((Hsb2.out.keep ((Below.refl wr.heap.size w3).setCell (p := ⟨L2, bit, none⟩) (by dsimp only; omega) _)).up hle (by simp)).put ht (Hput.out bit true)).congr (step_put ⟨0, d, a, b, bit⟩ _ (by simp [stepBits]))
            have Hfin := hide hfin
            clear hfin
            go_wp2_with fail
            go_roundw
            case rel => exact ⟨j + 1, by omega, by go_num, Hfin.out.top⟩
            case measure => simp [intOf]; omega
          · have p0 : w3.cell? ⟨wr.heap.size, 0, none⟩ = some (.int .i64 1) := p0
            have hfin : SBank w ((w3.setCell ⟨L2, bit, none⟩ (.bool false)).setCell ⟨L, d, none⟩ (.slice (some ⟨L2, 0, none⟩) N c5)) N C L w3.heap.size (runAll (m.take (j + 1))) := by
              rw [Hx.out]
              exact (((Hsb2.out.keep ((Below.refl wr.heap.size w3).setCell (p := ⟨L2, bit, none⟩) (by dsimp only; omega) _)).up hle (by simp)).put ht (Hput.out bit false)).congr (step_put ⟨1, d, a, b, bit⟩ _ (by simp [stepBits]))
            have Hfin := hide hfin
            clear hfin
            go_wp2_with fail
            go_roundw
            case rel => exact ⟨j + 1, by omega, by go_num, Hfin.out.top⟩
            case measure => simp [intOf]; omega
          · have p0 : w3.cell? ⟨wr.heap.size, 0, none⟩ = some (.int .i64 2) := p0
            have HS : Hid (∀ w', Below w3.heap.size w3 w' → w'.cell? ⟨wr.heap.size, 0, none⟩ = some (.int .i64 2) ∧ w'.cell? ⟨wr.heap.size, 2, none⟩ = some (.int .i64 a) ∧ w'.cell? ⟨wr.heap.size, 3, none⟩ = some (.int .i64 b) ∧ w'.cell? ⟨L, a, none⟩ = some (.slice (some da) N ca) ∧ w'.cell? ⟨L, b, none⟩ = some (.slice Ab N cb) ∧ Below w3.heap.size w3 w') := fun w' h => ⟨cell_keep h p0, cell_keep h p2, cell_keep h p3, cell_keep h y0, cell_keep h z0, h⟩
            have HR : Hid (∀ w', Below w3.heap.size w3 w' → wr.heap.size ≤ w'.heap.size ∧ Row w' wr.heap.size (some da) (truths N (F a)) ∧ Row w' wr.heap.size Ab (truths N (F b))) := fun w' h => ⟨Nat.le_trans hle h.size, Yr2.out.below (h.mono hle), Zr2.out.below (h.mono hle)⟩
            go_upto_region 18 with fail
            go_region_held3 (fun w' => w'.cell? ⟨wr.heap.size, 0, none⟩ = some (.int .i64 2) ∧ w'.cell? ⟨wr.heap.size, 2, none⟩ = some (.int .i64 a) ∧ w'.cell? ⟨wr.heap.size, 3, none⟩ = some (.int .i64 b) ∧ w'.cell? ⟨L, a, none⟩ = some (.slice (some da) N ca) ∧ w'.cell? ⟨L, b, none⟩ = some (.slice Ab N cb) ∧ Below w3.heap.size w3 w')
              (first
                | assumption
                | exact HS.out _ (Below.refl _ _).drew
                | (go_split_ands; exact HS.out _ (next_ ‹_› ‹_›)))
              (first
                | (go_at_call 35; go_split_ands; refine (sMixed_and N (some da) Ab (F a) (F b) ca cb _ _ _ h2 (HR.out _ ‹_›).1 (HR.out _ ‹_›).1 (HR.out _ ‹_›).2.1 (HR.out _ ‹_›).2.2).mono ?_; rintro e w6 ⟨A6, c6, rfl, hr6, hb6⟩))
            go_split_ands
            have hb6 := (‹Below w3.heap.size w3 w6›)
            have hle6 := hb6.size
            have q1 := cell_keep hb6 p1
            have q0 := cell_keep hb6 x0
            have qf := (Hsb2.out.keep (hb6.mono hle)).free d
            have hfin : SBank w (w6.setCell ⟨L, d, none⟩ (.slice A6 N c6)) N C L w6.heap.size (runAll (m.take (j + 1))) := by
              rw [Hx.out]
              exact ((Hsb2.out.keep (hb6.mono hle)).top.put ht hr6).congr (step_put ⟨2, d, a, b, bit⟩ _ (by simp [stepBits]))
            have Hfin := hide hfin
            clear hfin hr6 hb6 p0 p1 p2 p3 p4 x0 y0 z0
            go_wp2_with fail
            go_roundw
            case rel => exact ⟨j + 1, by omega, by go_num, Hfin.out.top⟩
            case measure => simp [intOf]; omega
          · have p0 : w3.cell? ⟨wr.heap.size, 0, none⟩ = some (.int .i64 3) := p0
            have HS : Hid (∀ w', Below w3.heap.size w3 w' → w'.cell? ⟨wr.heap.size, 0, none⟩ = some (.int .i64 3) ∧ w'.cell? ⟨wr.heap.size, 2, none⟩ = some (.int .i64 a) ∧ w'.cell? ⟨wr.heap.size, 3, none⟩ = some (.int .i64 b) ∧ w'.cell? ⟨L, a, none⟩ = some (.slice (some da) N ca) ∧ w'.cell? ⟨L, b, none⟩ = some (.slice Ab N cb) ∧ Below w3.heap.size w3 w') := fun w' h => ⟨cell_keep h p0, cell_keep h p2, cell_keep h p3, cell_keep h y0, cell_keep h z0, h⟩
            have HR : Hid (∀ w', Below w3.heap.size w3 w' → wr.heap.size ≤ w'.heap.size ∧ Row w' wr.heap.size (some da) (truths N (F a)) ∧ Row w' wr.heap.size Ab (truths N (F b))) := fun w' h => ⟨Nat.le_trans hle h.size, Yr2.out.below (h.mono hle), Zr2.out.below (h.mono hle)⟩
            go_upto_region 18 with fail
            go_region_held3 (fun w' => w'.cell? ⟨wr.heap.size, 0, none⟩ = some (.int .i64 3) ∧ w'.cell? ⟨wr.heap.size, 2, none⟩ = some (.int .i64 a) ∧ w'.cell? ⟨wr.heap.size, 3, none⟩ = some (.int .i64 b) ∧ w'.cell? ⟨L, a, none⟩ = some (.slice (some da) N ca) ∧ w'.cell? ⟨L, b, none⟩ = some (.slice Ab N cb) ∧ Below w3.heap.size w3 w')
              (first
                | assumption
                | exact HS.out _ (Below.refl _ _).drew
                | (go_split_ands; exact HS.out _ (next_ ‹_› ‹_›)))
              (first
                | (go_at_call 35; go_split_ands; refine (sMixed_or N (some da) Ab (F a) (F b) ca cb _ _ _ h2 (HR.out _ ‹_›).1 (HR.out _ ‹_›).1 (HR.out _ ‹_›).2.1 (HR.out _ ‹_›).2.2).mono ?_; rintro e w6 ⟨A6, c6, rfl, hr6, hb6⟩))
            go_split_ands
            have hb6 := (‹Below w3.heap.size w3 w6›)
            have hle6 := hb6.size
            have q1 := cell_keep hb6 p1
            have q0 := cell_keep hb6 x0
            have qf := (Hsb2.out.keep (hb6.mono hle)).free d
            have hfin : SBank w (w6.setCell ⟨L, d, none⟩ (.slice A6 N c6)) N C L w6.heap.size (runAll (m.take (j + 1))) := by
              rw [Hx.out]
              exact ((Hsb2.out.keep (hb6.mono hle)).top.put ht hr6).congr (step_put ⟨3, d, a, b, bit⟩ _ (by simp [stepBits]))
            have Hfin := hide hfin
            clear hfin hr6 hb6 p0 p1 p2 p3 p4 x0 y0 z0
            go_wp2_with fail
            go_roundw
            case rel => exact ⟨j + 1, by omega, by go_num, Hfin.out.top⟩
            case measure => simp [intOf]; omega
          · have p0 : w3.cell? ⟨wr.heap.size, 0, none⟩ = some (.int .i64 4) := p0
            have HS : Hid (∀ w', Below w3.heap.size w3 w' → w'.cell? ⟨wr.heap.size, 0, none⟩ = some (.int .i64 4) ∧ w'.cell? ⟨wr.heap.size, 2, none⟩ = some (.int .i64 a) ∧ w'.cell? ⟨wr.heap.size, 3, none⟩ = some (.int .i64 b) ∧ w'.cell? ⟨L, a, none⟩ = some (.slice (some da) N ca) ∧ w'.cell? ⟨L, b, none⟩ = some (.slice Ab N cb) ∧ Below w3.heap.size w3 w') := fun w' h => ⟨cell_keep h p0, cell_keep h p2, cell_keep h p3, cell_keep h y0, cell_keep h z0, h⟩
            have HR : Hid (∀ w', Below w3.heap.size w3 w' → wr.heap.size ≤ w'.heap.size ∧ Row w' wr.heap.size (some da) (truths N (F a)) ∧ Row w' wr.heap.size Ab (truths N (F b))) := fun w' h => ⟨Nat.le_trans hle h.size, Yr2.out.below (h.mono hle), Zr2.out.below (h.mono hle)⟩
            go_upto_region 18 with fail
            go_region_held3 (fun w' => w'.cell? ⟨wr.heap.size, 0, none⟩ = some (.int .i64 4) ∧ w'.cell? ⟨wr.heap.size, 2, none⟩ = some (.int .i64 a) ∧ w'.cell? ⟨wr.heap.size, 3, none⟩ = some (.int .i64 b) ∧ w'.cell? ⟨L, a, none⟩ = some (.slice (some da) N ca) ∧ w'.cell? ⟨L, b, none⟩ = some (.slice Ab N cb) ∧ Below w3.heap.size w3 w')
              (first
                | assumption
                | exact HS.out _ (Below.refl _ _).drew
                | (go_split_ands; exact HS.out _ (next_ ‹_› ‹_›)))
              (first
                | (go_at_call 35; go_split_ands; refine (sMixed_andNot N (some da) Ab (F a) (F b) ca cb _ _ _ h2 (HR.out _ ‹_›).1 (HR.out _ ‹_›).1 (HR.out _ ‹_›).2.1 (HR.out _ ‹_›).2.2).mono ?_; rintro e w6 ⟨A6, c6, rfl, hr6, hb6⟩))
            go_split_ands
            have hb6 := (‹Below w3.heap.size w3 w6›)
            have hle6 := hb6.size
            have q1 := cell_keep hb6 p1
            have q0 := cell_keep hb6 x0
            have qf := (Hsb2.out.keep (hb6.mono hle)).free d
            have hfin : SBank w (w6.setCell ⟨L, d, none⟩ (.slice A6 N c6)) N C L w6.heap.size (runAll (m.take (j + 1))) := by
              rw [Hx.out]
              exact ((Hsb2.out.keep (hb6.mono hle)).top.put ht hr6).congr (step_put ⟨4, d, a, b, bit⟩ _ (by simp [stepBits]))
            have Hfin := hide hfin
            clear hfin hr6 hb6 p0 p1 p2 p3 p4 x0 y0 z0
            go_wp2_with fail
            go_roundw
            case rel => exact ⟨j + 1, by omega, by go_num, Hfin.out.top⟩
            case measure => simp [intOf]; omega
          · have p0 : w3.cell? ⟨wr.heap.size, 0, none⟩ = some (.int .i64 5) := p0
            go_wp2_with fail
            refine (sTurned_any N _ (F d) _ _ _ h2 (Nat.le_refl _) Hr2.out).mono ?_
            rintro e w6 ⟨A6, c6, rfl, hr6, hb6⟩
            have hle6 := hb6.size
            have q1 := cell_keep hb6 p1
            have q0 := cell_keep hb6 x0
            have qf := (Hsb2.out.keep (hb6.mono hle)).free d
            have hfin : SBank w (w6.setCell ⟨L, d, none⟩ (.slice A6 N c6)) N C L w6.heap.size (runAll (m.take (j + 1))) := by
              rw [Hx.out]
              exact ((Hsb2.out.keep (hb6.mono hle)).top.put ht hr6).congr (step_put ⟨5, d, a, b, bit⟩ _ (by simp [stepBits]))
            have Hfin := hide hfin
            clear hfin hr6 hb6 p0 p1 p2 p3 p4 x0 y0 z0
            go_wp2_with fail
            go_roundw
            case rel => exact ⟨j + 1, by omega, by go_num, Hfin.out.top⟩
            case measure => simp [intOf]; omega
          · have p0 : w3.cell? ⟨wr.heap.size, 0, none⟩ = some (.int .i64 6) := p0
            have r6 := World.rowIs_made w3 (.bool false) N 4
            have hr6 : Row (w3.alloc (.cells (madeCells #[Value.bool false] N) 4)) (w3.alloc (.cells (madeCells #[Value.bool false] N) 4)).heap.size (some ⟨w3.heap.size, 0, none⟩) (truths N fun _ => false) := row_of_rowIs r6
            have hb6 := then_alloc (Below.refl w3.heap.size w3) (.cells (madeCells #[Value.bool false] N) 4)
            have hl3 : L < w3.heap.size := by omega
            have hl4 : wr.heap.size < w3.heap.size := by omega
            clear r6
            have Hr6 := hide hr6
            have Hb6 := hide hb6
            have p0' := p0
            have hle6 := hb6.size
            have q1 := cell_keep hb6 p1
            have q0 := cell_keep hb6 x0
            have qf := (Hsb2.out.keep (hb6.mono hle)).free d
            have hfin : SBank w ((w3.alloc (.cells (madeCells #[Value.bool false] N) 4)).setCell ⟨L, d, none⟩ (.slice (some ⟨w3.heap.size, 0, none⟩) N N)) N C L (w3.alloc (.cells (madeCells #[Value.bool false] N) 4)).heap.size (runAll (m.take (j + 1))) := by
              rw [Hx.out]
              exact ((Hsb2.out.keep (hb6.mono hle)).top.put ht hr6).congr (step_put ⟨6, d, a, b, bit⟩ _ (by simp [stepBits]))
            rw [World.setCell_alloc_past _ _ _ _ hl3] at hfin
            have Hfin := hide hfin
            clear hfin hr6 hb6 p2 p3 p4 y0 z0
            go_wp2_with fail
            go_roundw
            case rel => exact ⟨j + 1, by omega, by go_num, Hfin.out.top⟩
            case measure => simp [intOf]; omega
          · have p0 : w3.cell? ⟨wr.heap.size, 0, none⟩ = some (.int .i64 7) := p0
            have hY7 := then_alloc (Below.refl w3.heap.size w3) (.cells #[] 4)
            have hownE := World.ownsRow_made (base := w3.heap.size) (e := 4) (size := 1) w3 #[] 0 (Nat.le_refl _) (by decide) rfl
            have hnews : ∀ (j : Nat) (u : Value), (truths N (F a))[j]? = some u → (w3.alloc (.cells #[] 4)).cell? (da.add j) = some u := fun j u hj => by
              obtain ⟨ad', e, _, hc⟩ := Yr2.out.below (hY7.mono hle) j u hj
              injection e with e
              subst e
              exact hc
            have Hnews := hide hnews
            have hl3 : L < w3.heap.size := by omega
            have hl4 : wr.heap.size < w3.heap.size := by omega
            clear hnews
            go_wp2_with (at_builtin; refine wpList_append_own _ rfl _ _ 33 rfl w3.heap.size 4 ib (.bool false) 1 1 Try.underlying33 hib hb0 hb1 hb2 rfl (by decide) _ _ _ rfl hownE da N ca (truths N (F a)) rfl (by rw [truths_length, Nat.mul_one]) Hnews.out ?c2 ?c3 ?c4 ?c5 ?_)
            case c2 =>
              intro u hu
              obtain ⟨z, _, rfl⟩ := List.mem_map.1 hu
              rfl
            case c3 => unfold maxLen; omega
            case c4 => omega
            case c5 => simp
            intro v' w6 hown' hgrow _
            have hb6 : Below w3.heap.size w3 w6 := hY7.grown hgrow (by simp) (fun x hx => (hownE.lt x hx).1)
            obtain ⟨L6, c6, rfl, _, _, hr6, _⟩ := own_truths hown' h1
            clear hownE hown' hgrow hY7 Hnews
            have hle6 := hb6.size
            have q1 := cell_keep hb6 p1
            have q0 := cell_keep hb6 x0
            have qf := (Hsb2.out.keep (hb6.mono hle)).free d
            have hfin : SBank w (w6.setCell ⟨L, d, none⟩ (.slice (some ⟨L6, 0, none⟩) N c6)) N C L w6.heap.size (runAll (m.take (j + 1))) := by
              rw [Hx.out]
              exact ((Hsb2.out.keep (hb6.mono hle)).top.put ht hr6).congr (step_put ⟨7, d, a, b, bit⟩ _ (by simp [stepBits]))
            have Hfin := hide hfin
            clear hfin hr6 hb6 p0 p2 p3 p4 y0 z0
            go_wp2_with fail
            go_roundw
            case rel => exact ⟨j + 1, by omega, by go_num, Hfin.out.top⟩
            case measure => simp [intOf]; omega
        · have hje : j = m.length := by omega
          subst hje
          rw [List.take_length] at hF
          obtain ⟨Z, hZ⟩ : ∃ Z, Z = wr.heap.size := ⟨_, rfl⟩
          rw [← hZ] at hsb
          have hZ2 : Z ≤ wr.heap.size := by omega
          have hww : w.heap.size ≤ Z := Nat.le_of_lt (Nat.lt_of_le_of_lt hsb.new hsb.lt)
          have Hsb3 := hide hsb
          have HZ := hide hZ
          have HF := hide hF
          clear hsb hZ hF Hsb
          go_wp2_with fail
          obtain ⟨j0, ki, kz0, kz1, kz2⟩ := info_parts info_ints
          go_loopw [11, 90] (fun v i wt => ∃ k : Nat, k ≤ C ∧ i = .int .i64 k ∧ TellAt w wt N C L Z F v k) (fun _ i _ => C - (intOf i).toNat)
          case atStart =>
            refine ⟨0, Nat.zero_le _, rfl, [], rfl, ?_, fun t ht => by simp at ht, Hsb3.out.keep ((Below.refl Z wr).alloc hZ2 _)⟩
            rw [HZ.out]
            exact World.ownsRow_made wr #[] 0 (Nat.le_refl _) (by decide) rfl
          case round =>
            obtain ⟨k, hk, rfl, outs, hol, hown, hkl, hbt⟩ := hrel
            by_cases hlt3 : k < C
            · obtain ⟨Ak, ck, x0, xr⟩ := hbt.row _ hlt3
              have hws := hbt.le
              have k0 : (0 : Int) ≤ (k : Int) := by omega
              have k1 : (k : Int) < (C : Int) := by omega
              have Xr := hide xr
              have Hown := hide hown
              have Hkl := hide hkl
              have Hbt := hide hbt
              clear xr hown hkl hbt
              go_wp2_with fail
              refine (sBits_kind N _ (F k) _ _ _ h2 hws Xr.out).mono ?_
              rintro e w2 ⟨A2, c2', rfl, hrow2, hb2, hty2⟩
              have hown := Hown.out.kept (grown_of_below (row := none) hb2) (by
                rcases hq : u11.ownBlock with _ | x
                · exact Or.inl rfl
                · exact Or.inr (by simp))
              have hw2 : Z ≤ w2.heap.size := Nat.le_trans hws hb2.size
              have hon : (on N (F k)).length ≤ N := on_le N (F k)
              have Hkl2 := hide (Hkl.out.keep hb2)
              have Hbt2 := hide (Hbt.out.keep (hb2.mono hws))
              have Hrow2 := hide hrow2
              have Hty2 := hide hty2
              clear hb2 hrow2 hty2 Xr Hown Hkl Hbt x0
              go_wp2_with (at_builtin; refine wpList_append_own _ rfl _ _ 54 rfl Z 22 j0 (.slice none 0 0) 1 24 Try.underlying54 ki kz0 kz1 kz2 rfl (by decide) _ _ _ rfl (hown.alloc _) ⟨w2.heap.size, 0, none⟩ 1 1 [.slice A2 (on N (F k)).length c2'] rfl rfl ?c1 ?c2 ?c3 ?c4 ?c5 ?_)
              case c1 =>
                intro j u hj
                match j, hj with
                | 0, hj => simp at hj; subst hj; simp [Addr.add]
                | j + 1, hj => simp at hj
              case c2 =>
                intro u hu
                simp at hu
                subst hu
                rfl
              case c3 => unfold maxLen; omega
              case c4 => omega
              case c5 => simp; omega
              intro v' w3 hown' hgrow _
              have htell : TellAt w w3 N C L Z F v' (k + 1) := by
                subst hol
                have h5 := then_alloc (Below.refl w2.heap.size w2) (.cells #[.slice A2 (on N (F outs.length)).length c2'] 22)
                refine ⟨_, ?_, hown', (Hkl2.out.keep h5).snoc (hown.alloc _) (by decide) hgrow ((Hrow2.out.below h5).mono h5.size) (Hty2.out.keep h5), Hbt2.out.keep (((Below.refl Z w2).alloc hw2 _).grown hgrow (by simp; omega) (fun x hx => (hown.lt x hx).1))⟩
                simp
              have Htell := hide htell
              clear hown hown' hgrow htell hol hw2
              go_wp2
              go_roundw
              case rel => exact ⟨k + 1, by omega, by go_num, Htell.out⟩
              case measure => simp [intOf]; omega
            · have hke : C = k := by omega
              subst hke
              obtain ⟨A', c', hv, hrow⟩ := own_row hown
              subst hv
              have Hrow := hide hrow
              have Hkl := hide hkl.lists
              have Hb := hide hbt.below
              clear hown hkl hrow hbt
              go_wp2
              go_ret
              exact ⟨A', c', outs, rfl, hol, Hrow.out, by rw [← HF.out]; exact Hkl.out, Hb.out⟩
end Bv
end Go.Proofs.Ytjogehjgoemdpaa
