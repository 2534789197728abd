/- Contracts of Turned, Mixed, Alike: the reference's lists of truths made of others. -/
import Derived.Test.YtjogehjgoemdpaaLists
import Derived.Test.YtjogehjgoemdpaaRead
namespace Go.Proofs.Ytjogehjgoemdpaa
open Go.RowKit
namespace Bv

theorem truths_succ (k : Nat) (f : Nat → Bool) : truths (k + 1) f = truths k f ++ [.bool (f k)] := by
  unfold truths
  rw [List.range_succ, List.map_append]
  rfl

set_option maxHeartbeats 400000 in
theorem sTurned_any (N : Nat) (A : Option Addr) (f : Nat → Bool) (c : Nat) (w : World) (B : Nat) (h2 : N ≤ 300) (hB : B ≤ w.heap.size) (hr : Row w B A (truths N f)) :
    Calls Try.prog 40 #[.slice A N c] w (GivesTruths w N (fun i => !f i)) := by
  obtain ⟨i0, hi, hz0, hz1, hz2⟩ := info_parts info_bool
  go_enter Try.func40, Try.ntmps40
  go_wp2
  go_loopw [3, 9] (fun v i wr => ∃ k : Nat, k ≤ N ∧ i = .int .i64 k ∧ wr.ownsRow w.heap.size 4 1 v k (truths k (fun i => !f i)) ∧ Below w.heap.size w wr)
    (fun _ i _ => N - (intOf i).toNat)
  case atStart => exact ⟨0, Nat.zero_le _, rfl, World.ownsRow_made w #[] 0 (Nat.le_refl _) (by decide) rfl, then_alloc (Below.refl _ _) _⟩
  case round =>
    obtain ⟨k, hk, rfl, hown, hbl⟩ := hrel
    by_cases hlt : k < N
    · obtain ⟨ad, rfl, hadB, hcell⟩ := (hr.below (hbl.mono hB)).get k (by rw [truths_length]; exact hlt)
      rw [truths_get] at hcell
      have hsz := hbl.size
      clear hr
      obtain ⟨x, hx⟩ : ∃ x, x = f k := ⟨_, rfl⟩
      rw [← hx] at hcell
      have Hx := hide hx
      clear hx
      go_wp2_with (at_builtin; refine wpList_append_own _ rfl _ _ 33 rfl w.heap.size 4 i0 (.bool false) 1 1 Try.underlying33 hi hz0 hz1 hz2 rfl (by decide) _ _ _ rfl (hown.alloc _) ⟨wr.heap.size, 0, none⟩ 1 1 [.bool (!x)] rfl rfl ?c1 ?c2 ?c3 ?c4 ?c5 ?_)
      case c1 =>
        intro j u hj
        match j, hj with
        | 0, hj => simp at hj; subst hj; simp [Addr.add]
      case c2 => intro u hu; simp at hu; subst hu; rfl
      case c3 => unfold maxLen; omega
      case c4 => omega
      case c5 => simp; omega
      intro v' w1 hown' hgrow _
      have hb1 : Below w.heap.size w w1 := (hbl.alloc (by omega) _).grown hgrow (by simp; omega) (fun x hx => (hown.lt x hx).1)
      have hown2 : w1.ownsRow w.heap.size 4 1 v' (k + 1) (truths (k + 1) (fun i => !f i)) := by
        rw [truths_succ]
        rw [show (!f k) = (!x) from by rw [Hx.out]]
        exact hown'
      clear hown' hgrow hown hbl hcell
      go_wp2
      go_roundw
      case rel => exact ⟨k + 1, by omega, by go_num, hown2, hb1⟩
      case measure => simp [intOf]; omega
    · have hke : k = N := by omega
      subst hke
      obtain ⟨A', c', hv, hrow⟩ := own_row hown
      have Hv := hide hv
      clear hr hv hown
      go_wp2
      go_ret
      rw [Hv.out]
      exact ⟨A', c', rfl, hrow, hbl⟩

set_option maxHeartbeats 800000 in
theorem sMixed_and (N : Nat) (A A' : Option Addr) (f f' : Nat → Bool) (c c' : Nat) (w : World) (B B' : Nat) (h2 : N ≤ 300) (hB : B ≤ w.heap.size) (hB' : B' ≤ w.heap.size) (hr : Row w B A (truths N f)) (hr' : Row w B' A' (truths N f')) :
    Calls Try.prog 35 #[.int .i64 2, .slice A N c, .slice A' N c'] w (GivesTruths w N (fun i => f i && f' i)) := by
  obtain ⟨i0, hi, hz0, hz1, hz2⟩ := info_parts info_bool
  go_enter Try.func35, Try.ntmps35
  go_wp2
  go_loopw [7, 12] (fun v i wr => ∃ k : Nat, k ≤ N ∧ i = .int .i64 k ∧ wr.ownsRow w.heap.size 4 1 v k (truths k (fun i => f i && f' i)) ∧ Below w.heap.size w wr)
    (fun _ i _ => N - (intOf i).toNat)
  case atStart => exact ⟨0, Nat.zero_le _, rfl, World.ownsRow_made w #[] 0 (Nat.le_refl _) (by decide) rfl, then_alloc (Below.refl _ _) _⟩
  case round =>
    obtain ⟨k, hk, rfl, hown, hbl⟩ := hrel
    by_cases hlt : k < N
    · obtain ⟨ad, rfl, hadB, hcell⟩ := (hr.below (hbl.mono hB)).get k (by rw [truths_length]; exact hlt)
      obtain ⟨ad', rfl, hadB', hcell'⟩ := (hr'.below (hbl.mono hB')).get k (by rw [truths_length]; exact hlt)
      rw [truths_get] at hcell hcell'
      have hsz := hbl.size
      clear hr hr'
      obtain ⟨x, hx⟩ : ∃ x, x = f k := ⟨_, rfl⟩
      obtain ⟨y, hy⟩ : ∃ y, y = f' k := ⟨_, rfl⟩
      rw [← hx] at hcell
      rw [← hy] at hcell'
      have Hx := hide hx
      have Hy := hide hy
      clear hx hy
      cases x with
      | true =>
        go_wp2_with (at_builtin; refine wpList_append_own _ rfl _ _ 33 rfl w.heap.size 4 i0 (.bool false) 1 1 Try.underlying33 hi hz0 hz1 hz2 rfl (by decide) _ _ _ rfl (hown.alloc _) ⟨wr.heap.size, 0, none⟩ 1 1 [.bool y] rfl rfl ?c1 ?c2 ?c3 ?c4 ?c5 ?_)
        case c1 =>
          intro j u hj
          match j, hj with
          | 0, hj => simp at hj; subst hj; simp [Addr.add]
        case c2 => intro u hu; simp at hu; subst hu; rfl
        case c3 => unfold maxLen; omega
        case c4 => omega
        case c5 => simp; omega
        intro v' w1 hown' hgrow _
        have hb1 : Below w.heap.size w w1 := (hbl.alloc (by omega) _).grown hgrow (by simp; omega) (fun x hx => (hown.lt x hx).1)
        have hown2 : w1.ownsRow w.heap.size 4 1 v' (k + 1) (truths (k + 1) (fun i => f i && f' i)) := by
          rw [truths_succ]
          rw [show (f k && f' k) = y from by simp [← Hx.out, ← Hy.out]]
          exact hown'
        clear hown' hgrow hown hbl hcell hcell'
        go_wp2
        go_roundw
        case rel => exact ⟨k + 1, by omega, by go_num, hown2, hb1⟩
        case measure => simp [intOf]; omega
      | false =>
        go_wp2_with (at_builtin; refine wpList_append_own _ rfl _ _ 33 rfl w.heap.size 4 i0 (.bool false) 1 1 Try.underlying33 hi hz0 hz1 hz2 rfl (by decide) _ _ _ rfl (hown.alloc _) ⟨wr.heap.size, 0, none⟩ 1 1 [.bool false] rfl rfl ?c1 ?c2 ?c3 ?c4 ?c5 ?_)
        case c1 =>
          intro j u hj
          match j, hj with
          | 0, hj => simp at hj; subst hj; simp [Addr.add]
        case c2 => intro u hu; simp at hu; subst hu; rfl
        case c3 => unfold maxLen; omega
        case c4 => omega
        case c5 => simp; omega
        intro v' w1 hown' hgrow _
        have hb1 : Below w.heap.size w w1 := (hbl.alloc (by omega) _).grown hgrow (by simp; omega) (fun x hx => (hown.lt x hx).1)
        have hown2 : w1.ownsRow w.heap.size 4 1 v' (k + 1) (truths (k + 1) (fun i => f i && f' i)) := by
          rw [truths_succ]
          rw [show (f k && f' k) = false from by simp [← Hx.out, ← Hy.out]]
          exact hown'
        clear hown' hgrow hown hbl hcell hcell'
        go_wp2
        go_roundw
        case rel => exact ⟨k + 1, by omega, by go_num, hown2, hb1⟩
        case measure => simp [intOf]; omega
    · have hke : k = N := by omega
      subst hke
      obtain ⟨A'', c'', hv, hrow⟩ := own_row hown
      have Hv := hide hv
      clear hr hr' hv hown
      go_wp2
      go_ret
      rw [Hv.out]
      exact ⟨A'', c'', rfl, hrow, hbl⟩

set_option maxHeartbeats 800000 in
theorem sMixed_or (N : Nat) (A A' : Option Addr) (f f' : Nat → Bool) (c c' : Nat) (w : World) (B B' : Nat) (h2 : N ≤ 300) (hB : B ≤ w.heap.size) (hB' : B' ≤ w.heap.size) (hr : Row w B A (truths N f)) (hr' : Row w B' A' (truths N f')) :
    Calls Try.prog 35 #[.int .i64 3, .slice A N c, .slice A' N c'] w (GivesTruths w N (fun i => f i || f' i)) := by
  obtain ⟨i0, hi, hz0, hz1, hz2⟩ := info_parts info_bool
  go_enter Try.func35, Try.ntmps35
  go_wp2
  go_loopw [7, 12] (fun v i wr => ∃ k : Nat, k ≤ N ∧ i = .int .i64 k ∧ wr.ownsRow w.heap.size 4 1 v k (truths k (fun i => f i || f' i)) ∧ Below w.heap.size w wr)
    (fun _ i _ => N - (intOf i).toNat)
  case atStart => exact ⟨0, Nat.zero_le _, rfl, World.ownsRow_made w #[] 0 (Nat.le_refl _) (by decide) rfl, then_alloc (Below.refl _ _) _⟩
  case round =>
    obtain ⟨k, hk, rfl, hown, hbl⟩ := hrel
    by_cases hlt : k < N
    · obtain ⟨ad, rfl, hadB, hcell⟩ := (hr.below (hbl.mono hB)).get k (by rw [truths_length]; exact hlt)
      obtain ⟨ad', rfl, hadB', hcell'⟩ := (hr'.below (hbl.mono hB')).get k (by rw [truths_length]; exact hlt)
      rw [truths_get] at hcell hcell'
      have hsz := hbl.size
      clear hr hr'
      obtain ⟨x, hx⟩ : ∃ x, x = f k := ⟨_, rfl⟩
      obtain ⟨y, hy⟩ : ∃ y, y = f' k := ⟨_, rfl⟩
      rw [← hx] at hcell
      rw [← hy] at hcell'
      have Hx := hide hx
      have Hy := hide hy
      clear hx hy
      cases x with
      | true =>
        go_wp2_with (at_builtin; refine wpList_append_own _ rfl _ _ 33 rfl w.heap.size 4 i0 (.bool false) 1 1 Try.underlying33 hi hz0 hz1 hz2 rfl (by decide) _ _ _ rfl (hown.alloc _) ⟨wr.heap.size, 0, none⟩ 1 1 [.bool true] rfl rfl ?c1 ?c2 ?c3 ?c4 ?c5 ?_)
        case c1 =>
          intro j u hj
          match j, hj with
          | 0, hj => simp at hj; subst hj; simp [Addr.add]
        case c2 => intro u hu; simp at hu; subst hu; rfl
        case c3 => unfold maxLen; omega
        case c4 => omega
        case c5 => simp; omega
        intro v' w1 hown' hgrow _
        have hb1 : Below w.heap.size w w1 := (hbl.alloc (by omega) _).grown hgrow (by simp; omega) (fun x hx => (hown.lt x hx).1)
        have hown2 : w1.ownsRow w.heap.size 4 1 v' (k + 1) (truths (k + 1) (fun i => f i || f' i)) := by
          rw [truths_succ]
          rw [show (f k || f' k) = true from by simp [← Hx.out, ← Hy.out]]
          exact hown'
        clear hown' hgrow hown hbl hcell hcell'
        go_wp2
        go_roundw
        case rel => exact ⟨k + 1, by omega, by go_num, hown2, hb1⟩
        case measure => simp [intOf]; omega
      | false =>
        go_wp2_with (at_builtin; refine wpList_append_own _ rfl _ _ 33 rfl w.heap.size 4 i0 (.bool false) 1 1 Try.underlying33 hi hz0 hz1 hz2 rfl (by decide) _ _ _ rfl (hown.alloc _) ⟨wr.heap.size, 0, none⟩ 1 1 [.bool y] rfl rfl ?c1 ?c2 ?c3 ?c4 ?c5 ?_)
        case c1 =>
          intro j u hj
          match j, hj with
          | 0, hj => simp at hj; subst hj; simp [Addr.add]
        case c2 => intro u hu; simp at hu; subst hu; rfl
        case c3 => unfold maxLen; omega
        case c4 => omega
        case c5 => simp; omega
        intro v' w1 hown' hgrow _
        have hb1 : Below w.heap.size w w1 := (hbl.alloc (by omega) _).grown hgrow (by simp; omega) (fun x hx => (hown.lt x hx).1)
        have hown2 : w1.ownsRow w.heap.size 4 1 v' (k + 1) (truths (k + 1) (fun i => f i || f' i)) := by
          rw [truths_succ]
          rw [show (f k || f' k) = y from by simp [← Hx.out, ← Hy.out]]
          exact hown'
        clear hown' hgrow hown hbl hcell hcell'
        go_wp2
        go_roundw
        case rel => exact ⟨k + 1, by omega, by go_num, hown2, hb1⟩
        case measure => simp [intOf]; omega
    · have hke : k = N := by omega
      subst hke
      obtain ⟨A'', c'', hv, hrow⟩ := own_row hown
      have Hv := hide hv
      clear hr hr' hv hown
      go_wp2
      go_ret
      rw [Hv.out]
      exact ⟨A'', c'', rfl, hrow, hbl⟩

set_option maxHeartbeats 800000 in
theorem sMixed_andNot (N : Nat) (A A' : Option Addr) (f f' : Nat → Bool) (c c' : Nat) (w : World) (B B' : Nat) (h2 : N ≤ 300) (hB : B ≤ w.heap.size) (hB' : B' ≤ w.heap.size) (hr : Row w B A (truths N f)) (hr' : Row w B' A' (truths N f')) :
    Calls Try.prog 35 #[.int .i64 4, .slice A N c, .slice A' N c'] w (GivesTruths w N (fun i => f i && !f' i)) := by
  obtain ⟨i0, hi, hz0, hz1, hz2⟩ := info_parts info_bool
  go_enter Try.func35, Try.ntmps35
  go_wp2
  go_loopw [7, 12] (fun v i wr => ∃ k : Nat, k ≤ N ∧ i = .int .i64 k ∧ wr.ownsRow w.heap.size 4 1 v k (truths k (fun i => f i && !f' i)) ∧ Below w.heap.size w wr)
    (fun _ i _ => N - (intOf i).toNat)
  case atStart => exact ⟨0, Nat.zero_le _, rfl, World.ownsRow_made w #[] 0 (Nat.le_refl _) (by decide) rfl, then_alloc (Below.refl _ _) _⟩
  case round =>
    obtain ⟨k, hk, rfl, hown, hbl⟩ := hrel
    by_cases hlt : k < N
    · obtain ⟨ad, rfl, hadB, hcell⟩ := (hr.below (hbl.mono hB)).get k (by rw [truths_length]; exact hlt)
      obtain ⟨ad', rfl, hadB', hcell'⟩ := (hr'.below (hbl.mono hB')).get k (by rw [truths_length]; exact hlt)
      rw [truths_get] at hcell hcell'
      have hsz := hbl.size
      clear hr hr'
      obtain ⟨x, hx⟩ : ∃ x, x = f k := ⟨_, rfl⟩
      obtain ⟨y, hy⟩ : ∃ y, y = f' k := ⟨_, rfl⟩
      rw [← hx] at hcell
      rw [← hy] at hcell'
      have Hx := hide hx
      have Hy := hide hy
      clear hx hy
      cases x with
      | true =>
        go_wp2_with (at_builtin; refine wpList_append_own _ rfl _ _ 33 rfl w.heap.size 4 i0 (.bool false) 1 1 Try.underlying33 hi hz0 hz1 hz2 rfl (by decide) _ _ _ rfl (hown.alloc _) ⟨wr.heap.size, 0, none⟩ 1 1 [.bool (!y)] rfl rfl ?c1 ?c2 ?c3 ?c4 ?c5 ?_)
        case c1 =>
          intro j u hj
          match j, hj with
          | 0, hj => simp at hj; subst hj; simp [Addr.add]
        case c2 => intro u hu; simp at hu; subst hu; rfl
        case c3 => unfold maxLen; omega
        case c4 => omega
        case c5 => simp; omega
        intro v' w1 hown' hgrow _
        have hb1 : Below w.heap.size w w1 := (hbl.alloc (by omega) _).grown hgrow (by simp; omega) (fun x hx => (hown.lt x hx).1)
        have hown2 : w1.ownsRow w.heap.size 4 1 v' (k + 1) (truths (k + 1) (fun i => f i && !f' i)) := by
          rw [truths_succ]
          rw [show (f k && !f' k) = (!y) from by simp [← Hx.out, ← Hy.out]]
          exact hown'
        clear hown' hgrow hown hbl hcell hcell'
        go_wp2
        go_roundw
        case rel => exact ⟨k + 1, by omega, by go_num, hown2, hb1⟩
        case measure => simp [intOf]; omega
      | false =>
        go_wp2_with (at_builtin; refine wpList_append_own _ rfl _ _ 33 rfl w.heap.size 4 i0 (.bool false) 1 1 Try.underlying33 hi hz0 hz1 hz2 rfl (by decide) _ _ _ rfl (hown.alloc _) ⟨wr.heap.size, 0, none⟩ 1 1 [.bool false] rfl rfl ?c1 ?c2 ?c3 ?c4 ?c5 ?_)
        case c1 =>
          intro j u hj
          match j, hj with
          | 0, hj => simp at hj; subst hj; simp [Addr.add]
        case c2 => intro u hu; simp at hu; subst hu; rfl
        case c3 => unfold maxLen; omega
        case c4 => omega
        case c5 => simp; omega
        intro v' w1 hown' hgrow _
        have hb1 : Below w.heap.size w w1 := (hbl.alloc (by omega) _).grown hgrow (by simp; omega) (fun x hx => (hown.lt x hx).1)
        have hown2 : w1.ownsRow w.heap.size 4 1 v' (k + 1) (truths (k + 1) (fun i => f i && !f' i)) := by
          rw [truths_succ]
          rw [show (f k && !f' k) = false from by simp [← Hx.out, ← Hy.out]]
          exact hown'
        clear hown' hgrow hown hbl hcell hcell'
        go_wp2
        go_roundw
        case rel => exact ⟨k + 1, by omega, by go_num, hown2, hb1⟩
        case measure => simp [intOf]; omega
    · have hke : k = N := by omega
      subst hke
      obtain ⟨A'', c'', hv, hrow⟩ := own_row hown
      have Hv := hide hv
      clear hr hr' hv hown
      go_wp2
      go_ret
      rw [Hv.out]
      exact ⟨A'', c'', rfl, hrow, hbl⟩

/-- What Alike asks. -/
def alikeB (N N' : Int) (l l' : List Int) : Bool := goodB N l && (goodB N' l' && decide (N = N'))

set_option maxHeartbeats 800000 in
theorem sAlike_any (N N' : Int) (A A' : Option Addr) (l l' : List Int) (c c' : Nat) (w : World) (B : Nat) (hB : B ≤ w.heap.size) (hr : Row w B A (l.map (Value.int .i64))) (hr' : Row w B A' (l'.map (Value.int .i64)))
    (hl : l.length ≤ 2147483647) (hl' : l'.length ≤ 2147483647) :
    Calls Try.prog 29 #[.agg #[.int .i64 N, .slice A l.length c], .agg #[.int .i64 N', .slice A' l'.length c']] w fun e w' => e = .returned (.bool (alikeB N N' l l')) ∧ Below w.heap.size w w' := by
  have Hr := hide hr
  have Hr' := hide hr'
  clear hr hr'
  go_enter Try.func29, Try.ntmps29
  go_wp2_with fail
  refine (sGood_any N A l c _ B (by simp; omega) (Hr.out.below ((then_alloc (then_alloc (Below.refl _ _) _) _).mono hB)) hl).mono ?_
  rintro e w1 ⟨rfl, hb1⟩
  have r0 := cell_keep hb1 (p := ⟨w.heap.size, 0, none⟩) (v := .int .i64 N) (by go_simp)
  have q0 := cell_keep hb1 (p := ⟨w.heap.size + 1, 0, none⟩) (v := .int .i64 N') (by go_simp)
  have q1 := cell_keep hb1 (p := ⟨w.heap.size + 1, 1, none⟩) (v := .slice A' l'.length c') (by go_simp)
  have hW1 := then_ (then_alloc (then_alloc (Below.refl w.heap.size w) _) _) hb1
  clear hb1
  have HF : Hid (alikeB N N' l l' = (goodB N l && (goodB N' l' && decide (N = N')))) := rfl
  cases hg : goodB N l with
  | false =>
    rw [hg] at HF
    go_wp2_with fail
    go_ret
    rw [HF.out]
    exact ⟨rfl, hW1⟩
  | true =>
    rw [hg] at HF
    go_wp2_with fail
    refine (sGood_any N' A' l' c' _ B (Nat.le_trans hB hW1.size) (Hr'.out.below (hW1.mono hB)) hl').mono ?_
    rintro e w2 ⟨rfl, hb2⟩
    replace r0 := cell_keep hb2 r0
    replace q0 := cell_keep hb2 q0
    have hW2 := then_ hW1 hb2
    clear hb2 q1 hW1
    cases hg' : goodB N' l' with
    | false =>
      rw [hg'] at HF
      go_wp2_with fail
      go_ret
      rw [HF.out]
      exact ⟨rfl, hW2⟩
    | true =>
      rw [hg'] at HF
      go_wp2_with fail
      go_ret
      rw [HF.out]
      exact ⟨ret_bool (by rw [Bool.eq_iff_iff]; simp), hW2⟩
theorem sAlike_no (N N' : Int) (A A' : Option Addr) (l l' : List Int) (c c' : Nat) (w : World) (B : Nat) (hB : B ≤ w.heap.size) (hr : Row w B A (l.map (Value.int .i64))) (hr' : Row w B A' (l'.map (Value.int .i64)))
    (hl : l.length ≤ 2147483647) (hl' : l'.length ≤ 2147483647) (hg : alikeB N N' l l' = false) :
    Calls Try.prog 29 #[.agg #[.int .i64 N, .slice A l.length c], .agg #[.int .i64 N', .slice A' l'.length c']] w fun e w' => e = .returned (.bool false) ∧ Below w.heap.size w w' :=
  (sAlike_any N N' A A' l l' c c' w B hB hr hr' hl hl').mono fun _ _ h => ⟨by rw [h.1, hg], h.2⟩
theorem sAlike_yes (N : Nat) (A A' : Option Addr) (l l' : List Nat) (c c' : Nat) (w : World) (B : Nat) (hB : B ≤ w.heap.size) (hr : Row w B A (ints l)) (hr' : Row w B A' (ints l'))
    (h1 : 1 ≤ N) (h2 : N ≤ 300) (hl : l.length ≤ 600) (hN : ∀ x ∈ l, x < N) (hl' : l'.length ≤ 600) (hN' : ∀ x ∈ l', x < N) :
    Calls Try.prog 29 #[.agg #[.int .i64 N, .slice A l.length c], .agg #[.int .i64 N, .slice A' l'.length c']] w fun e w' => e = .returned (.bool true) ∧ Below w.heap.size w w' := by
  have h := sAlike_any N N A A' (l.map Int.ofNat) (l'.map Int.ofNat) c c' w B hB (by rw [ints_cast]; exact hr) (by rw [ints_cast]; exact hr') (by simp; omega) (by simp; omega)
  rw [List.length_map, List.length_map] at h
  refine h.mono fun _ _ h => ⟨?_, h.2⟩
  rw [h.1]
  unfold alikeB
  rw [goodB_nat h1 h2 hl hN, goodB_nat h1 h2 hl' hN']
  simp
end Bv
end Go.Proofs.Ytjogehjgoemdpaa
