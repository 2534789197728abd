/- FnRun's walk. -/
import Derived.Test.YtjogehjgoemdpaaRunI
import Derived.Test.YtjogehjgoemdpaaRunS
import Derived.Test.YtjogehjgoemdpaaSame
namespace Go.Proofs.Ytjogehjgoemdpaa
open Go.RowKit
namespace Bv

theorem info_sStep : (Try.prog.info? 52).map (fun i => (i.zero, i.size, i.bytes)) = some (some (.agg #[.int .i64 0, .int .i64 0, .int .i64 0, .int .i64 0, .int .i64 0]), 5, 40) := by kernel_rfl

set_option maxHeartbeats 1600000 in
theorem FnRun_any (n count : Int) (A : Option Addr) (l : List SI) (c : Nat) (w : World) (hr : Row w w.heap.size A (flat l)) (hl : l.length ≤ 2147483647) :
    Calls Try.prog 19 #[.int .i64 n, .int .i64 count, .slice A l.length c] w fun e w' => e = .returned (.bool true) ∧ Below w.heap.size w w' := by
  obtain ⟨i0, hi, hz0, hz1, hz2⟩ := info_parts info_sStep
  have hl0 : ¬ (2147483647 : Int) < (l.length : Int) := by omega
  go_enter Try.func19, Try.ntmps19
  go_wp2
  go_loopw [7, 19] (fun v i wr => ∃ k : Nat, k ≤ l.length ∧ i = .int .i64 k ∧ wr.ownsRow w.heap.size 52 5 v k (flat (l.take k)) ∧ Below w.heap.size w wr)
    (fun _ i _ => l.length - (intOf i).toNat)
  case atStart => exact ⟨0, Nat.zero_le _, rfl, World.ownsRow_made w #[] 0 (Nat.le_refl _) (by decide) rfl, then_alloc (Below.refl _ _) _⟩
  case round =>
    obtain ⟨k, hk, rfl, hown, hbl⟩ := hrel
    by_cases hlt : k < l.length
    · obtain ⟨ad, rfl, hadB, s0, s1, s2, s3, s4⟩ := step_cells (hr.below hbl) hlt
      obtain ⟨x, hx⟩ : ∃ x, x = l[k] := ⟨_, rfl⟩
      rw [← hx] at s0 s1 s2 s3 s4
      have Hto : Hid (flat (l.take (k + 1)) = flat (l.take k) ++ x.nums.map (Value.int .i64)) := by rw [← flat_snoc, hx, List.take_succ_eq_append_getElem hlt]; rfl
      clear hx
      have j0 : (0 : Int) ≤ (k : Int) := by omega
      have j1 : (k : Int) < (l.length : Int) := by omega
      have hsz := hbl.size
      go_wp2_with (at_builtin; refine wpList_append_own _ rfl _ _ 49 rfl w.heap.size 52 i0 (.agg #[.int .i64 0, .int .i64 0, .int .i64 0, .int .i64 0, .int .i64 0]) 5 40 Try.underlying49 hi hz0 hz1 hz2 rfl (by decide) _ _ _ rfl ((hown.alloc _).alloc _) ⟨wr.heap.size + 1, 0, none⟩ 1 1 (x.nums.map (Value.int .i64)) rfl rfl ?c1 ?c2 ?c3 ?c4 ?c5 ?_)
      case c1 =>
        intro j u hj
        match j, hj with
        | 0, hj => simp [SI.nums] at hj; subst hj; simp [Addr.add]
        | 1, hj => simp [SI.nums] at hj; subst hj; simp [Addr.add]
        | 2, hj => simp [SI.nums] at hj; subst hj; simp [Addr.add]
        | 3, hj => simp [SI.nums] at hj; subst hj; simp [Addr.add]
        | 4, hj => simp [SI.nums] at hj; subst hj; simp [Addr.add]
        | j + 5, hj => simp [SI.nums] at hj
      case c2 =>
        intro u hu
        obtain ⟨z, _, rfl⟩ := List.mem_map.1 hu
        rfl
      case c3 => unfold maxLen; omega
      case c4 => omega
      case c5 => simp; omega
      intro v' w1 hown' hgrow _
      have hb1 : Below w.heap.size w w1 := ((hbl.alloc (by omega) _).alloc (by simp; omega) _).grown hgrow (by simp; omega) (fun g hg => (hown.lt g hg).1)
      have hown2 : w1.ownsRow w.heap.size 52 5 v' (k + 1) (flat (l.take (k + 1))) := by
        rw [Hto.out]
        exact hown'
      clear hown' hgrow hown hbl s0 s1 s2 s3 s4
      go_wp2
      go_roundw
      case rel => exact ⟨k + 1, by omega, by go_num, hown2, hb1⟩
      case measure => simp [intOf]; omega
    · have hke : k = l.length := by omega
      subst hke
      rw [List.take_length] at hown
      obtain ⟨A1, c1, hv, hrow⟩ := owns_row hown
      subst hv
      have Hr := hide hr
      have Hrow := hide hrow
      have Hbl := hide hbl
      clear hown hr hrow hbl
      go_wp2_with fail
      refine (sSteps_any n count A1 l c1 _ _ (Nat.le_refl _) Hrow.out hl).mono ?_
      rintro e w2 ⟨rfl, hb2⟩
      have hW2 := then_ Hbl.out hb2
      cases hg : stepsB n count l with
      | false =>
        go_wp2
        go_ret
        exact ⟨rfl, hW2⟩
      | true =>
        obtain ⟨N, C, m, rfl, rfl, rfl, h1, h2, c1, c2, hml, hgood⟩ := steps_open hg
        have Hgood := hide hgood
        have HA := hide ((Hr.out.below hW2).mono hW2.size)
        have HA1 := hide ((Hrow.out.below hb2).mono hb2.size)
        have HW2 := hide hW2
        clear hg hgood hW2 hb2 Hr Hrow Hbl hk hlt hl0
        rw [List.length_map] at *
        go_wp2_with fail
        refine (iRun_any N C m A c _ h1 h2 c1 c2 hml Hgood.out HA.out).mono ?_
        rintro e w3 ⟨A3, c3, outs, rfl, hlen3, hrow3, hl3, hb3⟩
        have HA2 := hide ((HA1.out.below hb3).mono hb3.size)
        have Hrow3 := hide hrow3
        have Hl3 := hide hl3
        have HW3 := hide (then_ HW2.out hb3)
        clear hrow3 hl3 hb3 HA1 HA
        go_wp2_with fail
        refine (sRun_any N C m A1 _ _ h1 h2 c1 c2 hml Hgood.out HA2.out).mono ?_
        rintro e w4 ⟨A4, c4, outs4, rfl, hlen4, hrow4, hl4, hb4⟩
        have HR3 := hide ((Hrow3.out.below hb4).mono hb4.size)
        have HL3 := hide (Hl3.out.below hb4)
        have HR4 := hide hrow4
        have HL4 := hide hl4
        have HW4 := hide (then_ HW3.out hb4)
        have Hlen3 := hide hlen3
        have Hlen4 := hide hlen4
        clear hrow4 hl4 hb4 HA2 Hrow3 Hl3 HW3 HW2 hlen3 hlen4
        go_wp2_with fail
        go_loopw [58] (fun i wt => ∃ k : Nat, k ≤ C ∧ i = .int .i64 k ∧ Below w4.heap.size w4 wt) (fun i _ => C - (intOf i).toNat)
        case atStart => exact ⟨0, Nat.zero_le _, rfl, Below.refl _ _⟩
        case round =>
          obtain ⟨k, hk, rfl, hbl⟩ := hrel
          by_cases hlt : k < C
          · obtain ⟨B3, d3, o3, r3⟩ := HL3.out k (by rw [Hlen3.out]; exact hlt)
            obtain ⟨B4, d4, o4, r4⟩ := HL4.out k (by rw [Hlen4.out]; exact hlt)
            obtain ⟨a3, rfl, l3, x3⟩ := HR3.out k _ o3
            obtain ⟨a4, rfl, l4, x4⟩ := HR4.out k _ o4
            have x3 := cell_keep hbl x3
            have x4 := cell_keep hbl x4
            have hon : (on N (runAll m k)).length ≤ N := on_le N (runAll m k)
            have k0 : (0 : Int) ≤ (k : Int) := by omega
            have k1 : (k : Int) < (C : Int) := by omega
            have HS : Hid (∀ w', Below wr.heap.size wr w' → w'.cell? (a3.add k) = some (.slice B3 (on N (runAll m k)).length d3) ∧ w'.cell? (a4.add k) = some (.slice B4 (on N (runAll m k)).length d4) ∧ Below wr.heap.size wr w') :=
              fun w' h => ⟨cell_keep h x3, cell_keep h x4, h⟩
            have HQ : Hid (∀ w', Below wr.heap.size wr w' → Calls Try.prog 31 #[.slice B3 (on N (runAll m k)).length d3, .slice B4 (on N (runAll m k)).length d4] w' fun e w'' => e = .returned (.bool true) ∧ Below w'.heap.size w' w'') :=
              fun w' h => (sSame_any B3 B4 (on N (runAll m k)) (on N (runAll m k)) d3 d4 w' w4.heap.size (then_ hbl h).size (r3.below (then_ hbl h)) (r4.below (then_ hbl h)) (by omega) (by omega)).mono fun _ _ h => ⟨by rw [h.1]; simp [sameB], h.2⟩
            have Hbl := hide hbl
            clear r3 r4 o3 o4 hbl
            go_upto_region 17 with fail
            go_region_held3 (fun w' => w'.cell? (a3.add k) = some (.slice B3 (on N (runAll m k)).length d3) ∧ w'.cell? (a4.add k) = some (.slice B4 (on N (runAll m k)).length d4) ∧ Below wr.heap.size wr w')
              (first
                | assumption
                | exact HS.out _ (Below.refl _ _).drew
                | (go_split_ands; exact HS.out _ (next_ ‹_› ‹_›)))
              (first
                | (go_at_call 31; go_split_ands; refine (HQ.out _ ‹_›).mono ?_; rintro e w6 ⟨rfl, hb6⟩))
            go_split_ands
            have hb7 := (‹Below wr.heap.size wr w6›)
            have Hb7 := hide (then_ Hbl.out hb7)
            clear hb7 hb6 x3 x4 HS HQ
            go_wp2
            go_roundw
            case rel => exact ⟨k + 1, by omega, by go_num, Hb7.out⟩
            case measure => simp [intOf]; omega
          · have hke : k = C := by omega
            subst hke
            go_wp2
            go_ret
            exact ⟨rfl, then_ HW4.out hbl⟩

set_option maxHeartbeats 400000 in
theorem FnRun_big (n count : Int) (A : Option Addr) (k c : Nat) (w : World) (hl : 2147483647 < k) :
    Calls Try.prog 19 #[.int .i64 n, .int .i64 count, .slice A k c] w fun e w' => e = .returned (.bool true) ∧ Below w.heap.size w w' := by
  have h : (2147483647 : Int) < (k : Int) := by omega
  go_enter Try.func19, Try.ntmps19
  go_wp2
  go_ret
  exact ⟨rfl, Below.refl _ _⟩
theorem FnRun_walk (n count : Int) (A : Option Addr) (l : List SI) (c : Nat) (w : World) (hr : Row w w.heap.size A (flat l)) :
    Calls Try.prog 19 #[.int .i64 n, .int .i64 count, .slice A l.length c] w fun e w' => e = .returned (.bool true) ∧ Below w.heap.size w w' := by
  rcases Nat.lt_or_ge 2147483647 l.length with h | h
  · exact FnRun_big n count A l.length c w h
  · exact FnRun_any n count A l c w hr h
end Bv
end Go.Proofs.Ytjogehjgoemdpaa
