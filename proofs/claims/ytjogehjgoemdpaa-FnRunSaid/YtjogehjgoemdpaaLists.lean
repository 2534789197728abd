/- Contracts of Truths, Bits, Same: the reference's lists. -/
import Derived.Test.YtjogehjgoemdpaaCore
import Derived.Deep.LoopGhost
import Derived.BigQuiet
import Derived.Deep.QuietTactic
namespace Go.Proofs.Ytjogehjgoemdpaa
open Go.RowKit
namespace Bv

theorem info_bool : (Try.prog.info? 4).map (fun i => (i.zero, i.size, i.bytes)) = some (some (.bool false), 1, 1) := by kernel_rfl
theorem info_int : (Try.prog.info? 3).map (fun i => (i.zero, i.size, i.bytes)) = some (some (.int .i64 0), 1, 8) := by kernel_rfl

/-- N truths in a new list. -/
def truths (N : Nat) (f : Nat → Bool) : List Value := (List.range N).map fun i => Value.bool (f i)
theorem truths_length (N : Nat) (f : Nat → Bool) : (truths N f).length = N := by simp [truths]
theorem truths_get {N : Nat} {f : Nat → Bool} {k : Nat} (h : k < (truths N f).length) : (truths N f)[k] = .bool (f k) := by simp [truths]
theorem truths_congr {N : Nat} {f g : Nat → Bool} (h : ∀ i, i < N → f i = g i) : truths N f = truths N g := by
  unfold truths
  exact List.map_congr_left fun i hi => by rw [h i (by simpa using hi)]
def GivesTruths (w : World) (N : Nat) (f : Nat → Bool) (e : Ending) (w' : World) : Prop :=
  ∃ A c, e = .returned (.slice A N c) ∧ Row w' w'.heap.size A (truths N f) ∧ Below w.heap.size w w'
def GivesInts (w : World) (l : List Nat) (e : Ending) (w' : World) : Prop :=
  ∃ A c, e = .returned (.slice A l.length c) ∧ Row w' w'.heap.size A (ints l) ∧ Below w.heap.size w w'

theorem row_of_rowIs {w : World} {b t N : Nat} {f : Nat → Bool} (h : w.rowIs b t N (fun i => .bool (f i))) : Row w w.heap.size (some ⟨b, 0, none⟩) (truths N f) := by
  intro k u hu
  obtain ⟨hk, rfl⟩ := List.getElem?_eq_some_iff.1 hu
  rw [truths_get]
  rw [truths_length] at hk
  refine ⟨_, rfl, h.lt, ?_⟩
  have e : (⟨b, 0, none⟩ : Addr).add k = ⟨b, k, none⟩ := by unfold Addr.add; split <;> simp_all
  rw [e]
  exact h.cell hk

/-- N truths in a row of their own. -/
def RowTruths (w : World) (N : Nat) (f : Nat → Bool) (e : Ending) (w' : World) : Prop :=
  ∃ g, e = .returned (.slice (some ⟨g, 0, none⟩) N N) ∧ w.heap.size ≤ g ∧ w'.rowIs g 4 N (fun i => .bool (f i)) ∧ Below w.heap.size w w'

set_option maxHeartbeats 400000 in
theorem sTruths_row (N : Nat) (A : Option Addr) (l : List Nat) (c : Nat) (w : World) (B : Nat) (h2 : N ≤ 300) (hB : B ≤ w.heap.size) (hr : Row w B A (ints l)) (hl : l.length ≤ 600) (hN : ∀ x ∈ l, x < N) :
    Calls Try.prog 28 #[.agg #[.int .i64 N, .slice A l.length c]] w (RowTruths w N (bitsOf l)) := by
  have hmk : ∀ W : World, (Instr.makeSlice 33 (.int .i64 (N : Int)) (.int .i64 (N : Int))).run Try.prog W =
      .ok (.slice (some ⟨W.heap.size, 0, none⟩) N N) (W.alloc (.cells (madeCells #[Value.bool false] N) 4)) := fun W =>
    run_make_row' 33 4 (.bool false) 1 Try.underlying33 info_bool rfl .i64 .i64 N (by omega) (by omega) W
  go_enter Try.func28, Try.ntmps28
  go_wp2
  go_loopw [12] (fun i wr => ∃ k : Nat, k ≤ l.length ∧ i = .int .i64 k ∧ wr.rowIs (w.heap.size + 1) 4 N (fun j => .bool (bitsOf (l.take k) j)) ∧ Below w.heap.size w wr)
    (fun i _ => l.length - (intOf i).toNat)
  case atStart =>
    refine ⟨0, Nat.zero_le _, rfl, ?_, ((Below.refl _ _).alloc (Nat.le_refl _) _).alloc (by simp) _⟩
    have h := World.rowIs_made (w.alloc (.cells #[.int .i64 N, .slice A l.length c] 26)) (.bool false) N 4
    simp only [World.size_alloc] at h
    exact h.congr fun i _ => by rw [List.take_zero, bitsOf_nil]
  case round =>
    obtain ⟨k, hk, rfl, hrow, hbl⟩ := hrel
    by_cases hlt : k < l.length
    · obtain ⟨ad, rfl, hadB, hcell⟩ := (hr.below (hbl.mono hB)).get k (by rw [ints_length]; exact hlt)
      obtain ⟨x, hx⟩ : ∃ x, x = l[k] := ⟨_, rfl⟩
      have hx2 : wr.cell? (ad.add k) = some (.int .i64 x) := by rw [hcell, hx]; simp [ints]
      have hxN : x < N := hx ▸ hN _ (List.getElem_mem hlt)
      have Hx : Hid (l.take (k + 1) = l.take k ++ [x]) := by rw [hx, List.take_succ_eq_append_getElem hlt]; rfl
      have hc := hrow.cell hxN
      have hf := hrow.frozen x
      have Hrow := hide hrow
      clear hx hcell hr hN hrow
      go_wp2
      go_roundw
      case rel =>
        refine ⟨k + 1, by omega, by go_num, ?_, hbl.setCell (by show w.heap.size ≤ w.heap.size + 1; omega) _⟩
        refine (Hrow.out.set x (.bool true)).congr fun j _ => ?_
        rw [Hx.out, bitsOf_snoc]
        unfold upd
        split <;> rfl
      case measure => simp [intOf]; omega
    · have hke : k = l.length := by omega
      subst hke
      rw [List.take_length] at hrow
      have Hrow := hide hrow
      clear hr hN hrow
      go_wp2
      go_ret
      exact ⟨_, rfl, by omega, Hrow.out, hbl⟩
theorem sTruths_any (N : Nat) (A : Option Addr) (l : List Nat) (c : Nat) (w : World) (B : Nat) (h2 : N ≤ 300) (hB : B ≤ w.heap.size) (hr : Row w B A (ints l)) (hl : l.length ≤ 600) (hN : ∀ x ∈ l, x < N) :
    Calls Try.prog 28 #[.agg #[.int .i64 N, .slice A l.length c]] w (GivesTruths w N (bitsOf l)) :=
  (sTruths_row N A l c w B h2 hB hr hl hN).mono fun _ _ h => by
    obtain ⟨g, rfl, _, hrow, hb⟩ := h
    exact ⟨_, _, rfl, row_of_rowIs hrow, hb⟩

set_option maxHeartbeats 400000 in
theorem sBits_any (N : Nat) (A : Option Addr) (f : Nat → Bool) (c : Nat) (w : World) (B : Nat) (h2 : N ≤ 300) (hB : B ≤ w.heap.size) (hr : Row w B A (truths N f)) :
    Calls Try.prog 27 #[.slice A N c] w (GivesInts w (on N f)) := by
  obtain ⟨i0, hi, hz0, hz1, hz2⟩ := info_parts info_int
  go_enter Try.func27, Try.ntmps27
  go_wp2
  go_loopw [3, 9] (fun v i wr => ∃ k : Nat, k ≤ N ∧ i = .int .i64 k ∧ wr.ownsRow w.heap.size 3 1 v (on k f).length (ints (on k f)) ∧ Below w.heap.size w wr)
    (fun _ i _ => N - (intOf i).toNat)
  case atStart =>
    exact ⟨0, Nat.zero_le _, rfl, World.ownsRow_made w #[] 0 (Nat.le_refl _) (by decide) rfl, (Below.refl _ _).alloc (Nat.le_refl _) _⟩
  case round =>
    obtain ⟨k, hk, rfl, hown, hbl⟩ := hrel
    have hol := on_le k f
    by_cases hlt : k < N
    · obtain ⟨ad, rfl, hadB, hcell⟩ := (hr.below (hbl.mono hB)).get k (by rw [truths_length]; exact hlt)
      rw [truths_get] at hcell
      have hsz := hbl.size
      have Hon := hide (on_succ k f)
      by_cases hfk : f k = true
      · rw [hfk] at hcell
        have Hfk := hide hfk
        clear hr hfk
        go_wp2_with (at_builtin; refine wpList_append_own _ rfl _ _ 22 rfl w.heap.size 3 i0 (.int .i64 0) 1 8 Try.underlying22 hi hz0 hz1 hz2 rfl (by decide) _ _ _ rfl (hown.alloc _) ⟨wr.heap.size, 0, none⟩ 1 1 [.int .i64 (k : Int)] rfl rfl ?c1 ?c2 ?c3 ?c4 ?c5 ?_)
        case c1 =>
          intro j u hj
          match j, hj with
          | 0, hj => simp at hj; subst hj; simp [Addr.add]
        case c2 => intro u hu; simp at hu; subst hu; rfl
        case c3 => unfold maxLen; omega
        case c4 => omega
        case c5 => simp; omega
        intro v' w1 hown' hgrow _
        have hb1 : Below w.heap.size w w1 := (hbl.alloc (by omega) _).grown hgrow (by simp; omega) (fun g hg => (hown.lt g hg).1)
        have hown2 : w1.ownsRow w.heap.size 3 1 v' (on (k + 1) f).length (ints (on (k + 1) f)) := by
          rw [Hon.out, Hfk.out, if_pos rfl, ints_snoc, List.length_append]
          exact hown'
        clear hown' hgrow hown hbl hcell
        go_wp2
        go_roundw
        case rel => exact ⟨k + 1, by omega, by go_num, hown2, hb1⟩
        case measure => simp [intOf]; omega
      · have hff : f k = false := by simpa using hfk
        rw [hff] at hcell
        have hown2 : wr.ownsRow w.heap.size 3 1 u3 (on (k + 1) f).length (ints (on (k + 1) f)) := by
          rw [Hon.out, hff]
          simpa using hown
        clear hr hfk hff hown
        go_wp2
        go_roundw
        case rel => exact ⟨k + 1, by omega, by go_num, hown2, hbl⟩
        case measure => simp [intOf]; omega
    · have hke : k = N := by omega
      subst hke
      obtain ⟨A', c', hv, hrow⟩ := own_row hown
      have Hv := hide hv
      clear hr hv hown
      go_wp2
      go_ret
      rw [Hv.out]
      exact ⟨A', c', rfl, hrow, hbl⟩
end Bv
end Go.Proofs.Ytjogehjgoemdpaa
