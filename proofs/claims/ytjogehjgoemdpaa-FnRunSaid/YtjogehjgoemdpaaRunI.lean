/- Contract of the thin package's Run. -/
import Derived.Test.YtjogehjgoemdpaaBank
import Derived.Deep.RegionHeld3
import Derived.Deep.DeepCutAuto
namespace Go.Proofs.Ytjogehjgoemdpaa
open Go.RowKit
namespace Bv

theorem info_BV : (Try.prog.info? 60).map (fun i => (i.zero, i.size, i.bytes)) = some (some (.agg #[.int .i32 0, .slice none 0 0]), 2, 32) := by kernel_rfl

/-- Three vectors' variables. -/
def ThreeBoxes (X Y : World) (N : Nat) (v1 v2 v3 s1 s2 s3 : Value) : Prop :=
  ∃ p q r : Nat, s1 = .pointer (some ⟨p, 0, none⟩) ∧ s2 = .pointer (some ⟨q, 0, none⟩) ∧ s3 = .pointer (some ⟨r, 0, none⟩) ∧
    (Y.cell? ⟨p, 0, none⟩ = some (.int .i32 N) ∧ Y.cell? ⟨p, 1, none⟩ = some v1) ∧ (Y.cell? ⟨q, 0, none⟩ = some (.int .i32 N) ∧ Y.cell? ⟨q, 1, none⟩ = some v2) ∧ (Y.cell? ⟨r, 0, none⟩ = some (.int .i32 N) ∧ Y.cell? ⟨r, 1, none⟩ = some v3) ∧
    (X.heap.size ≤ p ∧ X.heap.size ≤ q ∧ X.heap.size ≤ r) ∧ Below X.heap.size X Y

/-- k lists were given. -/
def OutsAt (w wt : World) (N C g L Z : Nat) (G : Nat → Nat → Bool) (v : Value) (k : Nat) : Prop :=
  ∃ outs : List Value, outs.length = k ∧ wt.ownsRow Z 22 1 v k outs ∧ KindLists wt outs N G ∧ Bank w wt N C g L G ∧ Z ≤ wt.heap.size

set_option maxRecDepth 10000 in
set_option maxHeartbeats 3200000 in
theorem iRun_any (N C : Nat) (m : List St) (A : Option Addr) (c : Nat) (w : World) (h1 : 1 ≤ N) (h2 : N ≤ 300) (c1 : 1 ≤ C) (c2 : C ≤ 6) (hl : m.length ≤ 40) (hg : ∀ s ∈ m, s.good N C) (hr : Row w w.heap.size A (flat (m.map St.toSI))) :
    Calls Try.prog 43 #[.int .i64 N, .int .i64 C, .slice A m.length c] w (GivesLists w N C (runAll m)) := by
  obtain ⟨i0, hi, hz0, hz1, hz2⟩ := info_parts info_BV
  have Hr := hide hr
  have Hg := hide hg
  clear hr hg
  go_enter Try.func43, Try.ntmps43
  go_wp2_with fail
  refine (NewBulk_any N C _ h2 c2).mono ?_
  rintro e w1 ⟨g, rfl, hg1, hvs, hb1⟩
  have hgl := (hvs 0 (by omega)).lt
  have Hvs := hide hvs
  have hs1 := hb1.size
  clear hvs
  go_wp2_with fail
  generalize hW : w1.alloc (.cells #[.slice (some ⟨g, 0, none⟩) ((N + 31) / 32 * C) ((N + 31) / 32 * C), .int .i32 N, .int .i32 (((N : Int) + 31) / 32)] 72) = W
  have hleft : Left w W N C g w1.heap.size 0 := by
    rw [← hW]
    have e : (((N + 31) / 32 : Nat) : Int) = ((N : Int) + 31) / 32 := by omega
    refine ⟨⟨0, ?_, fun _ => by simp⟩, new_cell rfl, by rw [e]; exact new_cell rfl, by simp, fun t ht => (Hvs.out t ht).alloc _, then_alloc hb1 _⟩
    rw [Nat.zero_mul, Nat.sub_zero]
    exact new_cell rfl
  have hWs : W.heap.size = w1.heap.size + 1 := by rw [← hW]; simp
  have e1 : w1.heap.size + 1 = W.heap.size := hWs.symm
  have Hws := hide hWs
  have Hleft := hide hleft
  try rw [e1]
  clear hW hWs e1 hleft hb1
  go_loopw [8, 24] (fun v i wr => ∃ k : Nat, k ≤ C ∧ i = .int .i64 k ∧ wr.ownsRow W.heap.size 60 2 v k (bvs N C g k) ∧ Left w wr N C g w1.heap.size k ∧ W.heap.size ≤ wr.heap.size) (fun _ i _ => C - (intOf i).toNat)
  case atStart => exact ⟨0, Nat.zero_le _, rfl, World.ownsRow_made W #[] 0 (Nat.le_refl _) (by decide) rfl, Hleft.out.keep ((Below.refl _ _).alloc (Nat.le_refl _) _) (by have := Hws.out; omega) (by have := Hws.out; omega) (by have := Hws.out; omega), by simp⟩
  case round =>
    obtain ⟨k, hk, rfl, hown, hlft, hWr⟩ := hrel
    by_cases hlt : k < C
    · have Hown := hide hown
      obtain ⟨off, k0, ho⟩ := hlft.c0
      obtain rfl := ho hlt
      have Hlft := hide hlft
      have hroom := left_room (n := (N + 31) / 32) hlt
      clear hown hlft
      go_wp2_with fail
      refine (BulkNext_any N ((N + 31) / 32) w1.heap.size g _ _ _ _ ?_ (Nat.le_refl _) k0 Hlft.out.c1 Hlft.out.c2 Hlft.out.free).mono ?_
      · omega
      rintro e w2 ⟨rfl, hc2, hf2, ho2⟩
      have hl2 : Left w w2 N C g w1.heap.size (k + 1) := Hlft.out.step h1 (by omega) hs1 rfl rfl rfl hc2 hf2 ho2
      have hown := Hown.out.kept ho2.grown (by
        rcases hq : u8.ownBlock with _ | x
        · exact Or.inl rfl
        · right
          intro e
          have h := (Hown.out.lt x hq).1
          injection e with e
          have := Hws.out
          omega)
      have hw2 : W.heap.size ≤ w2.heap.size := Nat.le_trans hWr ho2.grown.size
      have Hl2 := hide hl2
      have Hbv : Hid (bvs N C g (k + 1) = bvs N C g k ++ [.int .i32 N, .slice (some ⟨g, k * ((N + 31) / 32), none⟩) ((N + 31) / 32) ((N + 31) / 32 * C - k * ((N + 31) / 32))]) := bvs_succ N C g k
      clear hc2 hf2 ho2 k0 ho hl2
      go_wp2_with (at_builtin; refine wpList_append_own _ rfl _ _ 74 rfl W.heap.size 60 i0 (.agg #[.int .i32 0, .slice none 0 0]) 2 32 Try.underlying74 hi hz0 hz1 hz2 rfl (by decide) _ _ _ rfl (hown.alloc _) ⟨w2.heap.size, 0, none⟩ 1 1 [.int .i32 N, .slice (some ⟨g, k * ((N + 31) / 32), none⟩) ((N + 31) / 32) ((N + 31) / 32 * C - k * ((N + 31) / 32))] rfl rfl ?c1 ?c2 ?c3 ?c4 ?c5 ?_)
      case c1 =>
        intro j u hj
        match j, hj with
        | 0, hj => simp at hj; subst hj; simp [Addr.add]
        | 1, hj => simp at hj; subst hj; simp [Addr.add]
        | j + 2, hj => simp at hj
      case c2 =>
        intro u hu
        simp at hu
        rcases hu with rfl | rfl <;> rfl
      case c3 => unfold maxLen; omega
      case c4 => omega
      case c5 => simp; omega
      intro v' w3 hown' hgrow _
      have hb3 : Below W.heap.size w2 w3 := ((Below.refl W.heap.size w2).alloc hw2 _).grown hgrow (by simp; omega) (fun x hx => (hown.lt x hx).1)
      have hl3 : Left w w3 N C g w1.heap.size (k + 1) := Hl2.out.keep hb3 (by have := Hws.out; omega) (by have := Hws.out; omega) (by have := Hws.out; omega)
      have hw3 : W.heap.size ≤ w3.heap.size := Nat.le_trans hw2 hb3.size
      have hown2 : w3.ownsRow W.heap.size 60 2 v' (k + 1) (bvs N C g (k + 1)) := by
        rw [Hbv.out]
        exact hown'
      clear hown' hgrow hown hb3 hw2
      go_wp2
      go_roundw
      case rel => exact ⟨k + 1, by omega, by go_num, hown2, hl3, hw3⟩
      case measure => simp [intOf]; omega
    · have hke : C = k := by omega
      subst hke
      obtain ⟨L, c1', hv, hLb, hLl, hrow, _⟩ := own_form hown c1
      have hbank : Bank w wr N C g L fun _ _ => false := hlft.bank hrow hLl (by have := Hws.out; omega) hg1
      subst hv
      have Hbank := hide hbank
      clear hown hlft hrow hbank Hleft Hvs hlt hk hWr
      go_wp2_with fail
      go_loopw [33] (fun i wt => ∃ (j : Nat) (G : Nat → Nat → Bool), j ≤ m.length ∧ i = .int .i64 j ∧ Agree N G (runAll (m.take j)) ∧ Bank w wt N C g L G) (fun i _ => m.length - (intOf i).toNat)
      case atStart => exact ⟨0, _, Nat.zero_le _, rfl, fun _ _ _ => rfl, Hbank.out⟩
      case round =>
        obtain ⟨j, G, hj, rfl, hag, hbk⟩ := hrel
        by_cases hlt : j < m.length
        · obtain ⟨ad, rfl, hadB, s0, s1, s2, s3, s4⟩ := step_cells (Hr.out.below hbk.below) (k := j) (by simpa using hlt)
          obtain ⟨s, hs⟩ : ∃ s, s = m[j] := ⟨_, rfl⟩
          have hse : (m.map St.toSI)[j]'(by simpa using hlt) = s.toSI := by simp [hs]
          rw [hse] at s0 s1 s2 s3 s4
          obtain ⟨o7, ht, ha, hb, hbit⟩ := Hg.out s (hs ▸ List.getElem_mem _)
          have Hx : Hid (runAll (m.take (j + 1)) = stepAll (runAll (m.take j)) s) := by
            rw [List.take_succ_eq_append_getElem hlt, runAll_snoc, hs]; rfl
          obtain ⟨op, d, a, b, bit⟩ := s
          simp only [St.toSI] at s0 s1 s2 s3 s4 o7 ht ha hb hbit
          obtain ⟨x0, x1⟩ := hbk.row _ ht
          obtain ⟨y0, y1⟩ := hbk.row _ ha
          obtain ⟨z0, z1⟩ := hbk.row _ hb
          have hLt := hbk.lt
          have Hag := hide hag
          have Hbk := hide hbk
          have j0 : (0 : Int) ≤ (j : Int) := by omega
          have j1 : (j : Int) < (m.length : Int) := by omega
          have t0 : (0 : Int) ≤ (d : Int) := by omega
          have t1 : (d : Int) < (C : Int) := by omega
          have a0 : (0 : Int) ≤ (a : Int) := by omega
          have a1 : (a : Int) < (C : Int) := by omega
          have b0 : (0 : Int) ≤ (b : Int) := by omega
          have b1 : (b : Int) < (C : Int) := by omega
          clear hag hbk hs hse ht ha hb
          go_upto_region 10 with fail
          generalize hX : wr.alloc _ = X
          have p0 : X.cell? ⟨wr.heap.size, 0, none⟩ = some (.int .i64 op) := by rw [← hX]; exact new_cell rfl
          have p1 : X.cell? ⟨wr.heap.size, 1, none⟩ = some (.int .i64 d) := by rw [← hX]; exact new_cell rfl
          have p2 : X.cell? ⟨wr.heap.size, 2, none⟩ = some (.int .i64 a) := by rw [← hX]; exact new_cell rfl
          have p3 : X.cell? ⟨wr.heap.size, 3, none⟩ = some (.int .i64 b) := by rw [← hX]; exact new_cell rfl
          have p4 : X.cell? ⟨wr.heap.size, 4, none⟩ = some (.int .i64 bit) := by rw [← hX]; exact new_cell rfl
          have hbX : Below wr.heap.size wr X := by rw [← hX]; exact then_alloc (Below.refl _ _) _
          have hXs : wr.heap.size < X.heap.size := by rw [← hX]; simp
          clear hX
          have x0 := cell_keep hbX x0
          have x1 := cell_keep hbX x1
          have y0 := cell_keep hbX y0
          have y1 := cell_keep hbX y1
          have z0 := cell_keep hbX z0
          have z1 := cell_keep hbX z1
          have HbX := hide hbX
          have hLX : L < X.heap.size := by omega
          have m1 : L < X.heap.size + 1 := by omega
          have m2 : L < X.heap.size + 1 + 1 := by omega
          have m3 : wr.heap.size < X.heap.size + 1 := by omega
          have m4 : wr.heap.size < X.heap.size + 1 + 1 := by omega
          have m5 : L ≤ X.heap.size := by omega
          have m6 : L ≤ X.heap.size + 1 := by omega
          have m7 : wr.heap.size ≤ X.heap.size := by omega
          have m8 : wr.heap.size ≤ X.heap.size + 1 := by omega
          have HS : Hid (∀ w', Below X.heap.size X w' → w'.cell? ⟨wr.heap.size, 1, none⟩ = some (.int .i64 d) ∧ w'.cell? ⟨wr.heap.size, 2, none⟩ = some (.int .i64 a) ∧ w'.cell? ⟨wr.heap.size, 3, none⟩ = some (.int .i64 b) ∧
                w'.cell? ⟨L, d * 2, none⟩ = some (.int .i32 N) ∧ w'.cell? ⟨L, d * 2 + 1, none⟩ = some (.slice (some ⟨g, d * ((N + 31) / 32), none⟩) ((N + 31) / 32) ((N + 31) / 32 * C - d * ((N + 31) / 32))) ∧
                w'.cell? ⟨L, a * 2, none⟩ = some (.int .i32 N) ∧ w'.cell? ⟨L, a * 2 + 1, none⟩ = some (.slice (some ⟨g, a * ((N + 31) / 32), none⟩) ((N + 31) / 32) ((N + 31) / 32 * C - a * ((N + 31) / 32))) ∧
                w'.cell? ⟨L, b * 2, none⟩ = some (.int .i32 N) ∧ w'.cell? ⟨L, b * 2 + 1, none⟩ = some (.slice (some ⟨g, b * ((N + 31) / 32), none⟩) ((N + 31) / 32) ((N + 31) / 32 * C - b * ((N + 31) / 32))) ∧ Below X.heap.size X w') :=
            fun w' h => ⟨cell_keep h p1, cell_keep h p2, cell_keep h p3, cell_keep h x0, cell_keep h x1, cell_keep h y0, cell_keep h y1, cell_keep h z0, cell_keep h z1, h⟩
          clear s0 s1 s2 s3 s4 hbX
          go_cut [11, 12, 13] (fun s1 s2 s3 Y => ThreeBoxes X Y N (.slice (some ⟨g, d * ((N + 31) / 32), none⟩) ((N + 31) / 32) ((N + 31) / 32 * C - d * ((N + 31) / 32))) (.slice (some ⟨g, a * ((N + 31) / 32), none⟩) ((N + 31) / 32) ((N + 31) / 32 * C - a * ((N + 31) / 32))) (.slice (some ⟨g, b * ((N + 31) / 32), none⟩) ((N + 31) / 32) ((N + 31) / 32 * C - b * ((N + 31) / 32))) s1 s2 s3)
          case first =>
            go_region_held3 (fun w' => w'.cell? ⟨wr.heap.size, 1, none⟩ = some (.int .i64 d) ∧ w'.cell? ⟨wr.heap.size, 2, none⟩ = some (.int .i64 a) ∧ w'.cell? ⟨wr.heap.size, 3, none⟩ = some (.int .i64 b) ∧
                w'.cell? ⟨L, d * 2, none⟩ = some (.int .i32 N) ∧ w'.cell? ⟨L, d * 2 + 1, none⟩ = some (.slice (some ⟨g, d * ((N + 31) / 32), none⟩) ((N + 31) / 32) ((N + 31) / 32 * C - d * ((N + 31) / 32))) ∧
                w'.cell? ⟨L, a * 2, none⟩ = some (.int .i32 N) ∧ w'.cell? ⟨L, a * 2 + 1, none⟩ = some (.slice (some ⟨g, a * ((N + 31) / 32), none⟩) ((N + 31) / 32) ((N + 31) / 32 * C - a * ((N + 31) / 32))) ∧
                w'.cell? ⟨L, b * 2, none⟩ = some (.int .i32 N) ∧ w'.cell? ⟨L, b * 2 + 1, none⟩ = some (.slice (some ⟨g, b * ((N + 31) / 32), none⟩) ((N + 31) / 32) ((N + 31) / 32 * C - b * ((N + 31) / 32))) ∧ Below X.heap.size X w')
              (first
                | assumption
                | exact HS.out _ (Below.refl _ _).drew
                | (go_split_ands; refine HS.out _ ?_; (repeat' (first | with_reducible assumption | with_reducible exact Below.refl _ _ | with_reducible refine Below.drew ?_ | with_reducible refine then_alloc ?_ _ | with_reducible refine Below.setCell ?_ ?_ _)); all_goals (dsimp only; omega)))
              (fail)
            all_goals
              go_wp2_with fail
              go_meet
              refine ⟨_, _, _, rfl, rfl, rfl, ⟨by go_simp, by go_simp⟩, ⟨by go_simp, by go_simp⟩, ⟨by go_simp, by go_simp⟩, ⟨by omega, by omega, by omega⟩, ?_⟩
              repeat' (first | with_reducible assumption | with_reducible exact Below.refl _ _ | with_reducible refine Below.drew ?_ | with_reducible refine then_alloc ?_ _ | with_reducible refine Below.setCell ?_ ?_ _)
              all_goals (dsimp only; omega)
          obtain ⟨p, q, r, rfl, rfl, rfl, ⟨v0, v1⟩, ⟨u0, u1⟩, ⟨i0, i1⟩, ⟨lp, lq, lr⟩, hO⟩ := hcut
          have hbY := Hbk.out.keep (then_ HbX.out hO)
          have p0 := cell_keep hO p0
          have p4 := cell_keep hO p4
          have ht : d < C := by omega
          have ha : a < C := by omega
          have hb : b < C := by omega
          have HY := hide hbY
          clear p1 p2 p3 x0 x1 y0 y1 z0 z1 HS hO hbY
          rcases (show op = 0 ∨ op = 1 ∨ op = 2 ∨ op = 3 ∨ op = 4 ∨ op = 5 ∨ op = 6 ∨ op = 7 by omega) with rfl | rfl | rfl | rfl | rfl | rfl | rfl | rfl
          · have p0 : wc.cell? ⟨wr.heap.size, 0, none⟩ = some (.int .i64 0) := p0
            have Hag2 : Hid (Agree N (fun t => if t = d then (upd (G d) bit true) else G t) (runAll (m.take (j + 1)))) := by
              rw [Hx.out]
              exact Hag.out.put ⟨0, d, a, b, bit⟩ fun i hi => by simp [stepBits]
            go_wp2_with fail
            refine (mSet_nat N bit g _ _ (G d) _ hbit h2 (HY.out.vec d ht)).mono ?_
            rintro e w2 ⟨rfl, hv2, ho2⟩
            have Hb2 := hide (HY.out.put hv2 ho2)
            clear p0 p4 v0 v1 u0 u1 i0 i1 hv2 ho2
            go_wp2_with fail
            go_roundw
            case rel => exact ⟨j + 1, _, by omega, by go_num, Hag2.out, Hb2.out⟩
            case measure => simp [intOf]; omega
          · have p0 : wc.cell? ⟨wr.heap.size, 0, none⟩ = some (.int .i64 1) := p0
            have Hag2 : Hid (Agree N (fun t => if t = d then (upd (G d) bit false) else G t) (runAll (m.take (j + 1)))) := by
              rw [Hx.out]
              exact Hag.out.put ⟨1, d, a, b, bit⟩ fun i hi => by simp [stepBits]
            go_wp2_with fail
            refine (mUnset_nat N bit g _ _ (G d) _ hbit h2 (HY.out.vec d ht)).mono ?_
            rintro e w2 ⟨rfl, hv2, ho2⟩
            have Hb2 := hide (HY.out.put hv2 ho2)
            clear p0 p4 v0 v1 u0 u1 i0 i1 hv2 ho2
            go_wp2_with fail
            go_roundw
            case rel => exact ⟨j + 1, _, by omega, by go_num, Hag2.out, Hb2.out⟩
            case measure => simp [intOf]; omega
          · have p0 : wc.cell? ⟨wr.heap.size, 0, none⟩ = some (.int .i64 2) := p0
            have Hag2 : Hid (Agree N (fun t => if t = d then (fun i => G a i && G b i) else G t) (runAll (m.take (j + 1)))) := by
              rw [Hx.out]
              exact Hag.out.put ⟨2, d, a, b, bit⟩ fun i hi => by simp [stepBits]
            go_wp2_with fail
            refine (mAnd_any N g _ _ g _ _ g _ _ _ _ _ _ h1 h2 (HY.out.vec d ht) (HY.out.vec a ha) (HY.out.vec b hb) aside_of aside_of).mono ?_
            rintro e w2 ⟨rfl, hv2, ho2⟩
            have Hb2 := hide (HY.out.put hv2 ho2)
            clear p0 p4 v0 v1 u0 u1 i0 i1 hv2 ho2
            go_wp2_with fail
            go_roundw
            case rel => exact ⟨j + 1, _, by omega, by go_num, Hag2.out, Hb2.out⟩
            case measure => simp [intOf]; omega
          · have p0 : wc.cell? ⟨wr.heap.size, 0, none⟩ = some (.int .i64 3) := p0
            have Hag2 : Hid (Agree N (fun t => if t = d then (fun i => G a i || G b i) else G t) (runAll (m.take (j + 1)))) := by
              rw [Hx.out]
              exact Hag.out.put ⟨3, d, a, b, bit⟩ fun i hi => by simp [stepBits]
            go_wp2_with fail
            refine (mOr_any N g _ _ g _ _ g _ _ _ _ _ _ h1 h2 (HY.out.vec d ht) (HY.out.vec a ha) (HY.out.vec b hb) aside_of aside_of).mono ?_
            rintro e w2 ⟨rfl, hv2, ho2⟩
            have Hb2 := hide (HY.out.put hv2 ho2)
            clear p0 p4 v0 v1 u0 u1 i0 i1 hv2 ho2
            go_wp2_with fail
            go_roundw
            case rel => exact ⟨j + 1, _, by omega, by go_num, Hag2.out, Hb2.out⟩
            case measure => simp [intOf]; omega
          · have p0 : wc.cell? ⟨wr.heap.size, 0, none⟩ = some (.int .i64 4) := p0
            have Hag2 : Hid (Agree N (fun t => if t = d then (fun i => G a i && !G b i) else G t) (runAll (m.take (j + 1)))) := by
              rw [Hx.out]
              exact Hag.out.put ⟨4, d, a, b, bit⟩ fun i hi => by simp [stepBits]
            go_wp2_with fail
            refine (mAndNot_any N g _ _ g _ _ g _ _ _ _ _ _ h1 h2 (HY.out.vec d ht) (HY.out.vec a ha) (HY.out.vec b hb) aside_of aside_of).mono ?_
            rintro e w2 ⟨rfl, hv2, ho2⟩
            have Hb2 := hide (HY.out.put hv2 ho2)
            clear p0 p4 v0 v1 u0 u1 i0 i1 hv2 ho2
            go_wp2_with fail
            go_roundw
            case rel => exact ⟨j + 1, _, by omega, by go_num, Hag2.out, Hb2.out⟩
            case measure => simp [intOf]; omega
          · have p0 : wc.cell? ⟨wr.heap.size, 0, none⟩ = some (.int .i64 5) := p0
            have Hag2 : Hid (Agree N (fun t => if t = d then (fun i => decide (i < N) && !G d i) else G t) (runAll (m.take (j + 1)))) := by
              rw [Hx.out]
              exact Hag.out.put ⟨5, d, a, b, bit⟩ fun i hi => by simp [stepBits, hi]
            go_wp2_with fail
            refine (mNot_any N g _ _ _ _ h1 h2 (HY.out.vec d ht)).mono ?_
            rintro e w2 ⟨rfl, hv2, ho2⟩
            have Hb2 := hide (HY.out.put hv2 ho2)
            clear p0 p4 v0 v1 u0 u1 i0 i1 hv2 ho2
            go_wp2_with fail
            go_roundw
            case rel => exact ⟨j + 1, _, by omega, by go_num, Hag2.out, Hb2.out⟩
            case measure => simp [intOf]; omega
          · have p0 : wc.cell? ⟨wr.heap.size, 0, none⟩ = some (.int .i64 6) := p0
            have Hag2 : Hid (Agree N (fun t => if t = d then (fun _ => false) else G t) (runAll (m.take (j + 1)))) := by
              rw [Hx.out]
              exact Hag.out.put ⟨6, d, a, b, bit⟩ fun i hi => by simp [stepBits]
            go_wp2_with fail
            refine (mClear_any N g _ _ _ _ h1 h2 (HY.out.vec d ht)).mono ?_
            rintro e w2 ⟨rfl, hv2, ho2⟩
            have Hb2 := hide (HY.out.put hv2 ho2)
            clear p0 p4 v0 v1 u0 u1 i0 i1 hv2 ho2
            go_wp2_with fail
            go_roundw
            case rel => exact ⟨j + 1, _, by omega, by go_num, Hag2.out, Hb2.out⟩
            case measure => simp [intOf]; omega
          · have p0 : wc.cell? ⟨wr.heap.size, 0, none⟩ = some (.int .i64 7) := p0
            have Hag2 : Hid (Agree N (fun t => if t = d then (G a) else G t) (runAll (m.take (j + 1)))) := by
              rw [Hx.out]
              exact Hag.out.put ⟨7, d, a, b, bit⟩ fun i hi => by simp [stepBits]
            go_wp2_with fail
            refine (mCopy_any N g _ _ g _ _ _ _ _ (HY.out.vec d ht) (HY.out.vec a ha)).mono ?_
            rintro e w2 ⟨rfl, hv2, ho2⟩
            have Hb2 := hide (HY.out.put hv2 ho2)
            clear p0 p4 v0 v1 u0 u1 i0 i1 hv2 ho2
            go_wp2_with fail
            go_roundw
            case rel => exact ⟨j + 1, _, by omega, by go_num, Hag2.out, Hb2.out⟩
            case measure => simp [intOf]; omega
        · have hje : j = m.length := by omega
          subst hje
          rw [List.take_length] at hag
          obtain ⟨Z, hZ⟩ : ∃ Z, Z = wr.heap.size := ⟨_, rfl⟩
          have hgl2 : g < Z := by rw [hZ]; exact (hbk.vec 0 (by omega)).lt
          have hLt : L < Z := by rw [hZ]; exact hbk.lt
          have hww : w.heap.size ≤ Z := by rw [hZ]; exact hbk.below.size
          have Hag := hide hag
          have Hbk := hide hbk
          have HZ := hide hZ
          clear hag hbk Hbank hZ
          go_wp2_with fail
          obtain ⟨j0, ki, kz0, kz1, kz2⟩ := info_parts info_ints
          go_loopw [14, 101] (fun v i wt => ∃ k : Nat, k ≤ C ∧ i = .int .i64 k ∧ OutsAt w wt N C g L Z G v k) (fun _ i _ => C - (intOf i).toNat)
          case atStart =>
            rw [HZ.out]
            exact ⟨0, Nat.zero_le _, rfl, [], rfl, World.ownsRow_made wr #[] 0 (Nat.le_refl _) (by decide) rfl, fun t ht => by simp at ht, Hbk.out.keep (then_alloc (Below.refl _ _) _), by simp⟩
          case round =>
            obtain ⟨k, hk, rfl, outs, hol, hown, hkl, hbt, hws⟩ := hrel
            by_cases hlt3 : k < C
            · obtain ⟨x0, x1⟩ := hbt.row _ hlt3
              have k0 : (0 : Int) ≤ (k : Int) := by omega
              have k1 : (k : Int) < (C : Int) := by omega
              have hvk := (hbt.vec k hlt3).alloc (.cells #[.int .i32 N, .slice (some ⟨g, k * ((N + 31) / 32), none⟩) ((N + 31) / 32) ((N + 31) / 32 * C - k * ((N + 31) / 32))] 60)
              have Hvk := hide hvk
              have Hown := hide hown
              have Hkl := hide hkl
              have Hbt := hide hbt
              clear hvk hown hkl hbt Hbk
              go_wp2_with fail
              refine (bits_kind N g _ _ (G k) _ h2 Hvk.out).mono ?_
              rintro e w2 ⟨A2, c2', rfl, hrow2, hb2, hty2⟩
              have hb3 := then_ (then_alloc (Below.refl wr.heap.size wr) _) hb2
              have hown := Hown.out.kept (grown_of_below (row := none) hb3) (by
                rcases hq : u14.ownBlock with _ | x
                · exact Or.inl rfl
                · exact Or.inr (by simp))
              have hkl2 := Hkl.out.keep hb3
              have hbt2 := Hbt.out.keep hb3
              have hw2 : Z ≤ w2.heap.size := Nat.le_trans hws hb3.size
              have hon : (on N (G k)).length ≤ N := on_le N (G k)
              have Hkl2 := hide hkl2
              have Hbt2 := hide hbt2
              have Hrow2 := hide hrow2
              have Hty2 := hide hty2
              clear hb2 hb3 hkl2 hbt2 hrow2 hty2 Hvk Hown Hkl Hbt x0 x1
              go_wp2_with (at_builtin; refine wpList_append_own _ rfl _ _ 54 rfl Z 22 j0 (.slice none 0 0) 1 24 Try.underlying54 ki kz0 kz1 kz2 rfl (by decide) _ _ _ rfl (hown.alloc _) ⟨w2.heap.size, 0, none⟩ 1 1 [.slice A2 (on N (G k)).length c2'] rfl rfl ?c1 ?c2 ?c3 ?c4 ?c5 ?_)
              case c1 =>
                intro j u hj
                match j, hj with
                | 0, hj => simp at hj; subst hj; simp [Addr.add]
                | j + 1, hj => simp at hj
              case c2 =>
                intro u hu
                simp at hu
                subst hu
                rfl
              case c3 => unfold maxLen; omega
              case c4 => omega
              case c5 => simp; omega
              intro v' w3 hown' hgrow _
              have hb4 : Below Z w2 w3 := ((Below.refl Z w2).alloc hw2 _).grown hgrow (by simp; omega) (fun x hx => (hown.lt x hx).1)
              have hbt3 := Hbt2.out.keepB hb4 hLt hgl2 hww
              have hw3 : Z ≤ w3.heap.size := Nat.le_trans hw2 hb4.size
              have hkl3 : KindLists w3 (outs ++ [.slice A2 (on N (G k)).length c2']) N G := by
                subst hol
                have h5 := then_alloc (Below.refl w2.heap.size w2) (.cells #[.slice A2 (on N (G outs.length)).length c2'] 22)
                exact (Hkl2.out.keep h5).snoc (hown.alloc _) (by decide) hgrow ((Hrow2.out.below h5).mono h5.size) (Hty2.out.keep h5)
              have hol3 : (outs ++ [Value.slice A2 (on N (G k)).length c2']).length = k + 1 := by simp [hol]
              have Hkl3 := hide hkl3
              have Hbt3 := hide hbt3
              have Hol3 := hide hol3
              clear hown hgrow hb4 hbt3 hkl3 hol3 hol hw2
              go_wp2
              go_roundw
              case rel => exact ⟨k + 1, by omega, by go_num, _, Hol3.out, hown', Hkl3.out, Hbt3.out, hw3⟩
              case measure => simp [intOf]; omega
            · have hke : C = k := by omega
              subst hke
              obtain ⟨A', c', hv, hrow⟩ := own_row hown
              subst hv
              have Hrow := hide hrow
              have Hkl := hide (hkl.congr Hag.out).lists
              have Hb := hide hbt.below
              clear hown hkl hrow hbt Hbk
              go_wp2
              go_ret
              exact ⟨A', c', outs, rfl, hol, Hrow.out, Hkl.out, Hb.out⟩
end Bv
end Go.Proofs.Ytjogehjgoemdpaa
