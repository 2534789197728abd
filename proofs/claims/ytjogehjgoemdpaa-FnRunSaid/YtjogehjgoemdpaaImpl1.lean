/- Contracts of the thin package's functions of one vector. -/
import Derived.Test.YtjogehjgoemdpaaBuild
import Derived.Test.YtjogehjgoemdpaaBits
import Derived.Test.YtjogehjgoemdpaaVec1
import Derived.Test.YtjogehjgoemdpaaVec3
import Derived.Deep.RegionHeld3
namespace Go.Proofs.Ytjogehjgoemdpaa
open Go.RowKit
namespace Bv

/-- A write into one vector of the call's own turns nothing that was there before. -/
theorem Wrote.below {w0 w w' : World} {g off n : Nat} (hb : Below w0.heap.size w0 w) (ho : Only w w' g off n) (hg : w0.heap.size ≤ g) : Below w0.heap.size w0 w' := hb.trans (ho.below hg hb.size)
theorem far_cell {w w' : World} {g off n b o : Nat} {v : Value} (ho : Only w w' g off n) (h : w.cell? ⟨b, o, none⟩ = some v) (hne : b ≠ g) : w'.cell? ⟨b, o, none⟩ = some v :=
  (ho.cell_far (p := ⟨b, o, none⟩) (lt_cell h) hne).trans h
theorem new_cell {w : World} {cs : Array Value} {t : TypeId} {o : Nat} {v : Value} (h : cs[o]? = some v) : (w.alloc (.cells cs t)).cell? ⟨w.heap.size, o, none⟩ = some v :=
  (World.cell?_alloc_at cs t _ o rfl).trans h

set_option maxHeartbeats 400000 in
theorem iSet_any (N : Nat) (A : Option Addr) (l : List Nat) (c i : Nat) (w : World) (B : Nat) (h2 : N ≤ 300) (hB : B ≤ w.heap.size) (hr : Row w B A (ints l)) (hl : l.length ≤ 600) (hN : ∀ x ∈ l, x < N) (hi : i < N) :
    Calls Try.prog 32 #[.agg #[.int .i64 N, .slice A l.length c], .int .i64 i] w (GivesInts w (on N (upd (bitsOf l) i true))) := by
  go_enter Try.func32, Try.ntmps32
  go_wp2_with fail
  refine (build_any N A l c _ B h2 (by simp; omega) (hr.below ((Below.refl _ _).alloc hB _)) hl hN).mono ?_
  rintro e w1 ⟨g, rfl, hg, hv, hb⟩
  have hbl := then_ (then_alloc (Below.refl w.heap.size w) _) hb
  have hgl := hv.lt
  simp only [World.size_alloc] at hg
  clear hb
  go_wp2_with fail
  refine (mSet_nat N i g 0 _ _ _ hi h2 (hv.alloc _)).mono ?_
  rintro e w2 ⟨rfl, hv2, ho2⟩
  have q0 := far_cell ho2 (b := w1.heap.size) (o := 0) (v := .int .i32 N) (new_cell rfl) (by omega)
  have q1 := far_cell ho2 (b := w1.heap.size) (o := 1) (v := .slice (some ⟨g, 0, none⟩) ((N + 31) / 32) ((N + 31) / 32)) (new_cell rfl) (by omega)
  have hbl2 := Wrote.below (then_alloc hbl _) ho2 (by omega)
  clear ho2 hv hbl
  go_wp2_with fail
  refine (bits_any N g 0 _ _ _ h2 hv2).mono ?_
  rintro e w3 ⟨A', c', rfl, hrow, hb3⟩
  have hbl3 := then_ hbl2 hb3
  clear hb3 hbl2
  go_wp2_with fail
  go_ret
  exact ⟨A', c', rfl, hrow, hbl3⟩

set_option maxHeartbeats 400000 in
theorem iUnset_any (N : Nat) (A : Option Addr) (l : List Nat) (c i : Nat) (w : World) (B : Nat) (h2 : N ≤ 300) (hB : B ≤ w.heap.size) (hr : Row w B A (ints l)) (hl : l.length ≤ 600) (hN : ∀ x ∈ l, x < N) (hi : i < N) :
    Calls Try.prog 41 #[.agg #[.int .i64 N, .slice A l.length c], .int .i64 i] w (GivesInts w (on N (upd (bitsOf l) i false))) := by
  go_enter Try.func41, Try.ntmps41
  go_wp2_with fail
  refine (build_any N A l c _ B h2 (by simp; omega) (hr.below ((Below.refl _ _).alloc hB _)) hl hN).mono ?_
  rintro e w1 ⟨g, rfl, hg, hv, hb⟩
  have hbl := then_ (then_alloc (Below.refl w.heap.size w) _) hb
  have hgl := hv.lt
  simp only [World.size_alloc] at hg
  clear hb
  go_wp2_with fail
  refine (mUnset_nat N i g 0 _ _ _ hi h2 (hv.alloc _)).mono ?_
  rintro e w2 ⟨rfl, hv2, ho2⟩
  have q0 := far_cell ho2 (b := w1.heap.size) (o := 0) (v := .int .i32 N) (new_cell rfl) (by omega)
  have q1 := far_cell ho2 (b := w1.heap.size) (o := 1) (v := .slice (some ⟨g, 0, none⟩) ((N + 31) / 32) ((N + 31) / 32)) (new_cell rfl) (by omega)
  have hbl2 := Wrote.below (then_alloc hbl _) ho2 (by omega)
  clear ho2 hv hbl
  go_wp2_with fail
  refine (bits_any N g 0 _ _ _ h2 hv2).mono ?_
  rintro e w3 ⟨A', c', rfl, hrow, hb3⟩
  have hbl3 := then_ hbl2 hb3
  clear hb3 hbl2
  go_wp2_with fail
  go_ret
  exact ⟨A', c', rfl, hrow, hbl3⟩

set_option maxHeartbeats 400000 in
theorem iIsEmpty_any (N : Nat) (A : Option Addr) (l : List Nat) (c : Nat) (w : World) (B : Nat) (h2 : N ≤ 300) (hB : B ≤ w.heap.size) (hr : Row w B A (ints l)) (hl : l.length ≤ 600) (hN : ∀ x ∈ l, x < N) :
    Calls Try.prog 25 #[.agg #[.int .i64 N, .slice A l.length c]] w fun e w' => e = .returned (.bool (emptyB ((N + 31) / 32) (bitsOf l))) ∧ Below w.heap.size w w' := by
  go_enter Try.func25, Try.ntmps25
  go_wp2_with fail
  refine (build_any N A l c _ B h2 (by simp; omega) (hr.below ((Below.refl _ _).alloc hB _)) hl hN).mono ?_
  rintro e w1 ⟨g, rfl, hg, hv, hb⟩
  have hbl := then_ (then_alloc (Below.refl w.heap.size w) _) hb
  clear hb
  go_wp2_with fail
  refine (mIsEmpty_any N g 0 _ _ _ h2 hv).mono ?_
  rintro e w2 ⟨rfl, hb2⟩
  go_wp2_with fail
  go_ret
  exact ⟨rfl, then_ hbl hb2⟩

set_option maxHeartbeats 400000 in
theorem iCount_any (N : Nat) (A : Option Addr) (l : List Nat) (c : Nat) (w : World) (B : Nat) (h2 : N ≤ 300) (hB : B ≤ w.heap.size) (hr : Row w B A (ints l)) (hl : l.length ≤ 600) (hN : ∀ x ∈ l, x < N) :
    Calls Try.prog 26 #[.agg #[.int .i64 N, .slice A l.length c]] w fun e w' => e = .returned (.int .i64 (cntN (bitsOf l) 0 (32 * ((N + 31) / 32)) : Nat)) ∧ Below w.heap.size w w' := by
  go_enter Try.func26, Try.ntmps26
  go_wp2_with fail
  refine (build_any N A l c _ B h2 (by simp; omega) (hr.below ((Below.refl _ _).alloc hB _)) hl hN).mono ?_
  rintro e w1 ⟨g, rfl, hg, hv, hb⟩
  have hbl := then_ (then_alloc (Below.refl w.heap.size w) _) hb
  clear hb
  go_wp2_with fail
  refine (mCount_any N g 0 _ _ _ h2 hv).mono ?_
  rintro e w2 ⟨rfl, hb2⟩
  go_wp2_with fail
  go_ret
  exact ⟨rfl, then_ hbl hb2⟩

/-- What Not gives: the places that are set, and what the second method tells. -/
def GivesNot (w : World) (N : Nat) (f : Nat → Bool) (e : Ending) (w' : World) : Prop :=
  ∃ A c, e = .returned (.tuple #[.slice A (on N f).length c, .int .i64 (cntN f 0 (32 * ((N + 31) / 32)) : Nat)]) ∧ Row w' w'.heap.size A (ints (on N f)) ∧ Below w.heap.size w w'

set_option maxHeartbeats 800000 in
theorem iNot_any (N : Nat) (A : Option Addr) (l : List Nat) (c : Nat) (w : World) (B : Nat) (h1 : 1 ≤ N) (h2 : N ≤ 300) (hB : B ≤ w.heap.size) (hr : Row w B A (ints l)) (hl : l.length ≤ 600) (hN : ∀ x ∈ l, x < N) :
    Calls Try.prog 39 #[.agg #[.int .i64 N, .slice A l.length c]] w (GivesNot w N (fun i => decide (i < N) && !bitsOf l i)) := by
  go_enter Try.func39, Try.ntmps39
  go_wp2_with fail
  refine (build_any N A l c _ B h2 (by simp; omega) (hr.below ((Below.refl _ _).alloc hB _)) hl hN).mono ?_
  rintro e w1 ⟨g, rfl, hg, hv, hb⟩
  have hbl := then_ (then_alloc (Below.refl w.heap.size w) _) hb
  have hgl := hv.lt
  simp only [World.size_alloc] at hg
  clear hb
  go_wp2_with fail
  refine (mNot_any N g 0 _ _ _ h1 h2 (hv.alloc _)).mono ?_
  rintro e w2 ⟨rfl, hv2, ho2⟩
  have q0 := far_cell ho2 (b := w1.heap.size) (o := 0) (v := .int .i32 N) (new_cell rfl) (by omega)
  have q1 := far_cell ho2 (b := w1.heap.size) (o := 1) (v := .slice (some ⟨g, 0, none⟩) ((N + 31) / 32) ((N + 31) / 32)) (new_cell rfl) (by omega)
  have hbl2 := Wrote.below (then_alloc hbl _) ho2 (by omega)
  clear ho2 hv hbl
  go_wp2_with fail
  have HS : Hid (∀ w', Below w2.heap.size w2 w' → w'.cell? ⟨w1.heap.size, 0, none⟩ = some (.int .i32 N) ∧ w'.cell? ⟨w1.heap.size, 1, none⟩ = some (.slice (some ⟨g, 0, none⟩) ((N + 31) / 32) ((N + 31) / 32)) ∧ Below w2.heap.size w2 w') :=
    fun w' h => ⟨cell_keep h q0, cell_keep h q1, h⟩
  have HV : Hid (∀ w', Below w2.heap.size w2 w' → Vec w' g 0 N (fun i => decide (i < N) && !bitsOf l i)) := fun w' h => hv2.keep h
  clear hv2
  go_region_held3 (fun w' => w'.cell? ⟨w1.heap.size, 0, none⟩ = some (.int .i32 N) ∧ w'.cell? ⟨w1.heap.size, 1, none⟩ = some (.slice (some ⟨g, 0, none⟩) ((N + 31) / 32) ((N + 31) / 32)) ∧ Below w2.heap.size w2 w')
    (first | assumption | exact HS.out _ (Below.refl _ _).drew | (go_split_ands; exact HS.out _ (next_ ‹_› ‹_›)))
    (first
      | (go_at_call 51; go_split_ands; refine (bits_any N g 0 _ _ _ h2 (HV.out _ ‹_›)).mono ?_; rintro e w4 ⟨A', c', rfl, hrow, hb4⟩)
      | (go_at_call 48; go_split_ands; refine (mCount_any N g 0 _ _ _ h2 (HV.out _ ‹_›)).mono ?_; rintro e w5 ⟨rfl, hb5⟩))
  go_wp2
  go_ret2
  go_split_ands
  exact ⟨A', c', rfl, (hrow.below hb5).mono hb5.size, then_ hbl2 ‹_›⟩

/-- What Clear gives: the places that are set, and what the second method tells. -/
def GivesClear (w : World) (N : Nat) (f : Nat → Bool) (e : Ending) (w' : World) : Prop :=
  ∃ A c, e = .returned (.tuple #[.slice A (on N f).length c, .bool (emptyB ((N + 31) / 32) f)]) ∧ Row w' w'.heap.size A (ints (on N f)) ∧ Below w.heap.size w w'

set_option maxHeartbeats 800000 in
theorem iClear_any (N : Nat) (A : Option Addr) (l : List Nat) (c : Nat) (w : World) (B : Nat) (h1 : 1 ≤ N) (h2 : N ≤ 300) (hB : B ≤ w.heap.size) (hr : Row w B A (ints l)) (hl : l.length ≤ 600) (hN : ∀ x ∈ l, x < N) :
    Calls Try.prog 38 #[.agg #[.int .i64 N, .slice A l.length c]] w (GivesClear w N (fun _ => false)) := by
  go_enter Try.func38, Try.ntmps38
  go_wp2_with fail
  refine (build_any N A l c _ B h2 (by simp; omega) (hr.below ((Below.refl _ _).alloc hB _)) hl hN).mono ?_
  rintro e w1 ⟨g, rfl, hg, hv, hb⟩
  have hbl := then_ (then_alloc (Below.refl w.heap.size w) _) hb
  have hgl := hv.lt
  simp only [World.size_alloc] at hg
  clear hb
  go_wp2_with fail
  refine (mClear_any N g 0 _ _ _ h1 h2 (hv.alloc _)).mono ?_
  rintro e w2 ⟨rfl, hv2, ho2⟩
  have q0 := far_cell ho2 (b := w1.heap.size) (o := 0) (v := .int .i32 N) (new_cell rfl) (by omega)
  have q1 := far_cell ho2 (b := w1.heap.size) (o := 1) (v := .slice (some ⟨g, 0, none⟩) ((N + 31) / 32) ((N + 31) / 32)) (new_cell rfl) (by omega)
  have hbl2 := Wrote.below (then_alloc hbl _) ho2 (by omega)
  clear ho2 hv hbl
  go_wp2_with fail
  have HS : Hid (∀ w', Below w2.heap.size w2 w' → w'.cell? ⟨w1.heap.size, 0, none⟩ = some (.int .i32 N) ∧ w'.cell? ⟨w1.heap.size, 1, none⟩ = some (.slice (some ⟨g, 0, none⟩) ((N + 31) / 32) ((N + 31) / 32)) ∧ Below w2.heap.size w2 w') :=
    fun w' h => ⟨cell_keep h q0, cell_keep h q1, h⟩
  have HV : Hid (∀ w', Below w2.heap.size w2 w' → Vec w' g 0 N (fun _ => false)) := fun w' h => hv2.keep h
  clear hv2
  go_region_held3 (fun w' => w'.cell? ⟨w1.heap.size, 0, none⟩ = some (.int .i32 N) ∧ w'.cell? ⟨w1.heap.size, 1, none⟩ = some (.slice (some ⟨g, 0, none⟩) ((N + 31) / 32) ((N + 31) / 32)) ∧ Below w2.heap.size w2 w')
    (first | assumption | exact HS.out _ (Below.refl _ _).drew | (go_split_ands; exact HS.out _ (next_ ‹_› ‹_›)))
    (first
      | (go_at_call 51; go_split_ands; refine (bits_any N g 0 _ _ _ h2 (HV.out _ ‹_›)).mono ?_; rintro e w4 ⟨A', c', rfl, hrow, hb4⟩)
      | (go_at_call 47; go_split_ands; refine (mIsEmpty_any N g 0 _ _ _ h2 (HV.out _ ‹_›)).mono ?_; rintro e w5 ⟨rfl, hb5⟩))
  go_wp2
  go_ret2
  go_split_ands
  exact ⟨A', c', rfl, (hrow.below hb5).mono hb5.size, then_ hbl2 ‹_›⟩

/-! The same, said of lists. -/
theorem emptyB_iff {N : Nat} {f : Nat → Bool} : emptyB ((N + 31) / 32) f = true ↔ ∀ i, i < 32 * ((N + 31) / 32) → f i = false := by
  unfold emptyB
  rw [List.all_eq_true]
  constructor
  · intro h i hi
    have h1 := h (i / 32) (by simp; omega)
    simp only [decide_eq_true_eq] at h1
    have h2 := (word_zero f (i / 32)).1 h1 (i % 32) (Nat.mod_lt _ (by decide))
    rwa [Nat.div_add_mod] at h2
  · intro h j hj
    simp at hj
    simp only [decide_eq_true_eq]
    exact (word_zero f j).2 fun i hi => h _ (by omega)
theorem emptyB_list {N : Nat} {l : List Nat} (hN : ∀ x ∈ l, x < N) : emptyB ((N + 31) / 32) (bitsOf l) = (l.length == 0) := by
  rw [Bool.eq_iff_iff, emptyB_iff, beq_iff_eq, List.length_eq_zero_iff]
  constructor
  · intro h
    rcases l with _ | ⟨a, r⟩
    · rfl
    · have h1 := hN a (by simp)
      have h2 := h a (by omega)
      simp [bitsOf] at h2
  · rintro rfl
    intro i _
    simp [bitsOf]
theorem iIsEmpty_list (N : Nat) (A : Option Addr) (l : List Nat) (c : Nat) (w : World) (B : Nat) (h2 : N ≤ 300) (hB : B ≤ w.heap.size) (hr : Row w B A (ints l)) (hl : l.length ≤ 600) (hN : ∀ x ∈ l, x < N) :
    Calls Try.prog 25 #[.agg #[.int .i64 N, .slice A l.length c]] w fun e w' => e = .returned (.bool (l.length == 0)) ∧ Below w.heap.size w w' :=
  (iIsEmpty_any N A l c w B h2 hB hr hl hN).mono fun _ _ h => ⟨by rw [h.1, emptyB_list hN], h.2⟩
theorem iCount_list (N : Nat) (A : Option Addr) (l : List Nat) (c : Nat) (w : World) (B : Nat) (h2 : N ≤ 300) (hB : B ≤ w.heap.size) (hr : Row w B A (ints l)) (hl : l.length ≤ 600) (hN : ∀ x ∈ l, x < N) :
    Calls Try.prog 26 #[.agg #[.int .i64 N, .slice A l.length c]] w fun e w' => e = .returned (.int .i64 ((on N (bitsOf l)).length : Nat)) ∧ Below w.heap.size w w' :=
  (iCount_any N A l c w B h2 hB hr hl hN).mono fun _ _ h => ⟨by rw [h.1, cnt_on (bitsOf_lt hN)], h.2⟩
/-- A list of places and its length. -/
def GivesCounted (w : World) (l : List Nat) (e : Ending) (w' : World) : Prop :=
  ∃ A c, e = .returned (.tuple #[.slice A l.length c, .int .i64 (l.length : Nat)]) ∧ Row w' w'.heap.size A (ints l) ∧ Below w.heap.size w w'
theorem iNot_list (N : Nat) (A : Option Addr) (l : List Nat) (c : Nat) (w : World) (B : Nat) (h1 : 1 ≤ N) (h2 : N ≤ 300) (hB : B ≤ w.heap.size) (hr : Row w B A (ints l)) (hl : l.length ≤ 600) (hN : ∀ x ∈ l, x < N) :
    Calls Try.prog 39 #[.agg #[.int .i64 N, .slice A l.length c]] w (GivesCounted w (on N fun i => !bitsOf l i)) :=
  (iNot_any N A l c w B h1 h2 hB hr hl hN).mono fun _ _ h => by
    have e1 : on N (fun i => decide (i < N) && !bitsOf l i) = on N fun i => !bitsOf l i := on_congr fun i hi => by simp [hi]
    obtain ⟨A', c', rfl, hrow, hb⟩ := h
    rw [cnt_on (fun i hi => by have : ¬ i < N := by omega
                               simp [this]), e1]
    rw [e1] at hrow
    exact ⟨A', c', rfl, hrow, hb⟩
theorem iClear_list (N : Nat) (A : Option Addr) (l : List Nat) (c : Nat) (w : World) (B : Nat) (h1 : 1 ≤ N) (h2 : N ≤ 300) (hB : B ≤ w.heap.size) (hr : Row w B A (ints l)) (hl : l.length ≤ 600) (hN : ∀ x ∈ l, x < N) :
    Calls Try.prog 38 #[.agg #[.int .i64 N, .slice A l.length c]] w fun e w' => (∃ A c, e = .returned (.tuple #[.slice A 0 c, .bool true])) ∧ Below w.heap.size w w' :=
  (iClear_any N A l c w B h1 h2 hB hr hl hN).mono fun _ _ h => by
    obtain ⟨A', c', rfl, hrow, hb⟩ := h
    have e1 : on N (fun _ => false) = [] := on_none fun _ _ => rfl
    have e2 : emptyB ((N + 31) / 32) (fun _ => false) = true := emptyB_iff.2 fun _ _ => rfl
    rw [e1, e2]
    exact ⟨⟨A', c', rfl⟩, hb⟩
end Bv
end Go.Proofs.Ytjogehjgoemdpaa
