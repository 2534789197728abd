/- Contract of the thin package's Next; what Next says of the list of places. -/
import Derived.Test.YtjogehjgoemdpaaDoorTz
import Derived.Test.YtjogehjgoemdpaaDoorBuild
import Derived.Test.YtjogehjgoemdpaaDoorSame
namespace Go.Proofs.YtjogehjgoemdpaaDoor
open Go.RowKit
namespace Bv

theorem mNext_any (N g off cap i : Nat) (f : Nat → Bool) (w : World) (h2 : N ≤ 300) (hv : Vec w g off N f) (hN : ∀ k, N ≤ k → f k = false) (hT : Tab w) :
    Calls Tryd.prog 13 #[.agg #[.int .i32 N, .slice (some ⟨g, off, none⟩) ((N + 31) / 32) cap], .int .i32 i] w (GivesNext w N f i) := by
  by_cases hi : N ≤ i
  · exact mNext_far N g off cap i f w hi
  · by_cases h0 : word f (i / 32) / 2 ^ (i % 32) = 0
    · exact mNext_on N g off cap i f w h2 hv hN (by omega) hT h0
    · exact mNext_near N g off cap i f w h2 hv hN (by omega) hT h0

theorem NextIs.bounds {N : Nat} {f : Nat → Bool} {i : Nat} {r : Int} (h : NextIs N f i r) : -1 ≤ r ∧ r < N + 1 := by
  rcases h with ⟨rfl, _⟩ | ⟨k, rfl, h1, h2, _⟩ <;> omega

/-- What the thin package's Next gives. -/
def GivesNext64 (w : World) (N : Nat) (f : Nat → Bool) (i : Nat) (e : Ending) (w' : World) : Prop :=
  ∃ r, e = .returned (.int .i64 r) ∧ NextIs N f i r ∧ Below w.heap.size w w'

set_option maxHeartbeats 400000 in
theorem iNext_any (N : Nat) (A : Option Addr) (l : List Nat) (c i : Nat) (w : World) (B : Nat) (h2 : N ≤ 300) (hB : B ≤ w.heap.size) (hr : Row w B A (ints l)) (hl : l.length ≤ 600) (hN : ∀ x ∈ l, x < N) (hi : i ≤ 600) (hT : Tab w) :
    Calls Tryd.prog 10 #[.agg #[.int .i64 N, .slice A l.length c], .int .i64 i] w (GivesNext64 w N (bitsOf l) i) := by
  have HT := hide hT
  clear hT
  go_enter Tryd.func10, Tryd.ntmps10
  go_wp2_with fail
  refine (build_any N A l c _ B h2 (by simp; omega) (hr.below ((Below.refl _ _).alloc hB _)) hl hN).mono ?_
  rintro e w1 ⟨g, rfl, hg, hv, hb⟩
  have hbl := then_ (then_alloc (Below.refl w.heap.size w) _) hb
  clear hb
  go_wp2_with fail
  refine (mNext_any N g 0 _ i (bitsOf l) _ h2 hv (bitsOf_lt hN) (HT.out.keep hbl)).mono ?_
  rintro e w2 ⟨r, rfl, hn, hb2⟩
  obtain ⟨r1, r2⟩ := hn.bounds
  have Hn := hide hn
  clear hn
  go_wp2_with fail
  go_ret
  exact ⟨r, rfl, Hn.out, then_ hbl hb2⟩

theorem iNext_int (N : Nat) (A : Option Addr) (l : List Nat) (c i : Nat) (z : Int) (hz : z = (i : Int)) (w : World) (B : Nat) (h2 : N ≤ 300) (hB : B ≤ w.heap.size) (hr : Row w B A (ints l)) (hl : l.length ≤ 600) (hN : ∀ x ∈ l, x < N) (hi : i ≤ 600) (hT : Tab w) :
    Calls Tryd.prog 10 #[.agg #[.int .i64 N, .slice A l.length c], .int .i64 z] w (GivesNext64 w N (bitsOf l) i) := by
  subst hz
  exact iNext_any N A l c i w B h2 hB hr hl hN hi hT

theorem on_skip {f : Nat → Bool} {k : Nat} : ∀ m, k ≤ m → (∀ j, k ≤ j → j < m → f j = false) → on m f = on k f
  | 0, h, _ => by have : k = 0 := by omega
                  rw [this]
  | m + 1, h, hz => by
    by_cases hk : k = m + 1
    · rw [hk]
    · rw [on_succ, hz m (by omega) (by omega), on_skip m (by omega) fun j h1 h3 => hz j h1 (by omega)]
      simp
/-- The first place of a list that is i or more; -1 if there is none. -/
def wantOf (l : List Nat) (i : Nat) : Int := match l.find? (fun k => decide (i ≤ k)) with
  | some k => k
  | none => -1
theorem wantOf_nil (i : Nat) : wantOf [] i = -1 := rfl
theorem wantOf_snoc (l : List Nat) (a i : Nat) : wantOf (l ++ [a]) i = if wantOf l i < 0 ∧ i ≤ a then (a : Int) else wantOf l i := by
  unfold wantOf
  rw [List.find?_append]
  cases h : l.find? (fun k => decide (i ≤ k)) with
  | some k => simp; omega
  | none =>
    by_cases ha : i ≤ a
    · simp [List.find?, ha]
    · simp [List.find?, ha]
theorem wantOf_next {N : Nat} {f : Nat → Bool} {i : Nat} {r : Int} (h : NextIs N f i r) : wantOf (on N f) i = r := by
  rcases h with ⟨rfl, h⟩ | ⟨k, rfl, h1, h2, h3, h4⟩
  · have e : (on N f).find? (fun k => decide (i ≤ k)) = none := by
      rw [List.find?_eq_none]
      intro x hx
      obtain ⟨h5, h6⟩ := mem_on.1 hx
      intro h7
      rw [h x (by simpa using h7) h5] at h6
      cases h6
    unfold wantOf
    rw [e]
  · have e : (on N f).find? (fun k => decide (i ≤ k)) = some k := by
      have e1 : on N f = on k f ++ (k :: ((List.range' (k + 1) (N - (k + 1))).filter f)) := by
        unfold on
        have e2 : List.range N = List.range k ++ (k :: List.range' (k + 1) (N - (k + 1))) := by
          rw [List.range_eq_range', List.range_eq_range', show N = k + (1 + (N - (k + 1))) by omega, List.range'_append_1.symm]
          congr 1
          rw [show k + (1 + (N - (k + 1))) - (k + 1) = N - (k + 1) by omega, Nat.add_comm 1]
          simp [List.range'_succ]
        rw [e2, List.filter_append, List.filter_cons, if_pos h3]
      rw [e1, List.find?_append, List.find?_eq_none.2, List.find?_cons_of_pos]
      · simp
      · simpa using h1
      · intro x hx h5
        obtain ⟨h6, h7⟩ := mem_on.1 hx
        rw [h4 x (by simpa using h5) h6] at h7
        cases h7
    unfold wantOf
    rw [e]
end Bv
end Go.Proofs.YtjogehjgoemdpaaDoor
