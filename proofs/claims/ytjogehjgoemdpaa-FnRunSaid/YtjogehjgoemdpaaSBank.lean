/- The reference's vectors: lists of truths, listed in a row of one cell each. -/
import Derived.Test.YtjogehjgoemdpaaBank
import Derived.Test.YtjogehjgoemdpaaMixed
namespace Go.Proofs.Ytjogehjgoemdpaa
open Go.RowKit
namespace Bv

/-- For each vector its list of truths, in blocks of truths. -/
def BoolRows (w : World) (xs : List Value) (N : Nat) (F : Nat → Nat → Bool) : Prop :=
  ∀ t, t < xs.length → ∃ A c, xs[t]? = some (.slice A N c) ∧ Row w w.heap.size A (truths N (F t)) ∧ Typed w 4 A
theorem BoolRows.keep {w w' : World} {xs : List Value} {N : Nat} {F : Nat → Nat → Bool} (h : BoolRows w xs N F) (hb : Below w.heap.size w w') : BoolRows w' xs N F := fun t ht => by
  obtain ⟨A, c, h1, h2, h3⟩ := h t ht
  exact ⟨A, c, h1, (h2.below hb).mono hb.size, h3.keep hb⟩
theorem BoolRows.snoc {w w1 : World} {xs : List Value} {N base size n c : Nat} {e' : TypeId} {v : Value} {F : Nat → Nat → Bool} {A : Option Addr} (h : BoolRows w xs N F) (hown : w.ownsRow base e' size v n xs) (hne : 4 ≠ e') (hg : w.grownBy w1 v.ownBlock)
    (hr : Row w w.heap.size A (truths N (F xs.length))) (ht : Typed w 4 A) : BoolRows w1 (xs ++ [.slice A N c]) N F := fun t hl => by
  rw [List.length_append, List.length_singleton] at hl
  by_cases he : t < xs.length
  · obtain ⟨A', c', h1, h2, h3⟩ := h t he
    exact ⟨A', c', by rw [List.getElem?_append_left he]; exact h1, (h2.grown (Nat.le_refl _) hg (h3.apart hown hne)).mono hg.size, h3.grown hg (h3.apart hown hne)⟩
  · have e : t = xs.length := by omega
    subst e
    exact ⟨A, c, by simp, (hr.grown (Nat.le_refl _) hg (ht.apart hown hne)).mono hg.size, ht.grown hg (ht.apart hown hne)⟩
theorem typed_rowIs {w : World} {b t N : Nat} {f : Nat → Value} (h : w.rowIs b t N f) : Typed w t (some ⟨b, 0, none⟩) := fun ad ha => by
  obtain ⟨c, hc, _⟩ := h
  injection ha with ha
  subst ha
  exact ⟨c, hc⟩

/-- C lists of N truths that hold F, listed at block L; all below R. -/
structure SBank (w wr : World) (N C L R : Nat) (F : Nat → Nat → Bool) : Prop where
  row : ∀ t, t < C → ∃ A c, wr.cell? ⟨L, t, none⟩ = some (.slice A N c) ∧ Row wr R A (truths N (F t))
  free : ∀ j, wr.frozen? ⟨L, j, none⟩ = false
  lt : L < R
  le : R ≤ wr.heap.size
  below : Below w.heap.size w wr
  new : w.heap.size ≤ L
theorem Row.setOther {w : World} {B N : Nat} {A : Option Addr} {f : Nat → Bool} {p : Addr} {u v : Value} (h : Row w B A (truths N f)) (hp : w.cell? p = some v) (hv : ∀ b, v ≠ .bool b) : Row (w.setCell p u) B A (truths N f) := fun k u' hk => by
  obtain ⟨ad, e, hl, hc⟩ := h k u' hk
  refine ⟨ad, e, hl, (World.cell?_setCell_other _ _ _ _ ?_).trans hc⟩
  intro e2
  obtain ⟨hk2, rfl⟩ := List.getElem?_eq_some_iff.1 hk
  rw [truths_get, ← e2, hp] at hc
  injection hc with hc
  exact hv _ hc
section
variable {w wr w' : World} {N C L R : Nat} {F : Nat → Nat → Bool}
theorem SBank.keep (h : SBank w wr N C L R F) (hb : Below R wr w') : SBank w w' N C L R F :=
  ⟨fun t ht => by
    obtain ⟨A, c, h1, h2⟩ := h.row t ht
    exact ⟨A, c, (hb.cell (p := ⟨L, t, none⟩) h.lt).trans h1, h2.below hb⟩,
   fun j => (hb.frozen (p := ⟨L, j, none⟩) h.lt).trans (h.free j), h.lt, Nat.le_trans h.le hb.size, h.below.trans (hb.mono (Nat.le_of_lt (Nat.lt_of_le_of_lt h.new h.lt))), h.new⟩
theorem SBank.up {R' : Nat} (h : SBank w wr N C L R F) (hR : R ≤ R') (hw : R' ≤ wr.heap.size) : SBank w wr N C L R' F :=
  ⟨fun t ht => by
    obtain ⟨A, c, h1, h2⟩ := h.row t ht
    exact ⟨A, c, h1, h2.mono hR⟩, h.free, Nat.lt_of_lt_of_le h.lt hR, hw, h.below, h.new⟩
/-- All below the end of memory. -/
theorem SBank.top (h : SBank w wr N C L R F) : SBank w wr N C L wr.heap.size F := h.up h.le (Nat.le_refl _)
theorem SBank.put (h : SBank w wr N C L R F) {d c : Nat} {A : Option Addr} {f : Nat → Bool} (hd : d < C) (hr : Row wr R A (truths N f)) :
    SBank w (wr.setCell ⟨L, d, none⟩ (.slice A N c)) N C L R (fun t => if t = d then f else F t) := by
  obtain ⟨A0, c0, h0, _⟩ := h.row d hd
  refine ⟨fun t ht => ?_, fun j => by simpa using h.free j, h.lt, by simpa [World.setCell] using h.le, h.below.setCell (p := ⟨L, d, none⟩) h.new _, h.new⟩
  show ∃ A' c', _ ∧ Row _ _ _ (truths N (if t = d then f else F t))
  by_cases e : t = d
  · subst e
    rw [if_pos rfl]
    exact ⟨A, c, World.cell?_setCell_same _ _ _ h0, hr.setOther h0 (fun b hb => by cases hb)⟩
  · rw [if_neg e]
    obtain ⟨A1, c1, h1, h2⟩ := h.row t ht
    refine ⟨A1, c1, (World.cell?_setCell_other _ _ _ _ ?_).trans h1, h2.setOther h0 (fun b hb => by cases hb)⟩
    intro e2
    injection e2 with _ e2
    exact e e2.symm
end
theorem SBank.congr {w wr : World} {N C L R : Nat} {F F' : Nat → Nat → Bool} (h : SBank w wr N C L R F) (e : F = F') : SBank w wr N C L R F' := e ▸ h
theorem step_put (s : St) (F : Nat → Nat → Bool) {f : Nat → Bool} (hf : f = stepBits s F) : (fun t => if t = s.to then f else F t) = stepAll F s := by
  subst hf
  rfl
theorem BoolRows.bank {w wr : World} {xs : List Value} {N L : Nat} {F : Nat → Nat → Bool} (h : BoolRows wr xs N F) (hc : ∀ (j : Nat) (u : Value), xs[j]? = some u → wr.cell? ⟨L, j, none⟩ = some u) (hf : ∀ j : Nat, wr.frozen? ⟨L, j, none⟩ = false)
    (hl : L < wr.heap.size) (hb : Below w.heap.size w wr) (hL : w.heap.size ≤ L) : SBank w wr N xs.length L wr.heap.size F :=
  ⟨fun t ht => by
    obtain ⟨A, c, h1, h2, _⟩ := h t ht
    exact ⟨A, c, hc _ _ h1, h2⟩, hf, hl, Nat.le_refl _, hb, hL⟩
theorem truths_set (N b : Nat) (f : Nat → Bool) (x : Bool) : (truths N f).set b (.bool x) = truths N (upd f b x) := by
  apply List.ext_getElem
  · simp [truths]
  · intro i h1 h2
    rw [List.getElem_set, truths_get, truths_get]
    unfold upd
    by_cases e : b = i
    · subst e; simp
    · rw [if_neg e, if_neg (fun h => e h.symm)]
/-- A list of truths of the call's own, of which one is turned. -/
theorem own_truths {w : World} {base N : Nat} {v : Value} {f : Nat → Bool} (h : w.ownsRow base 4 1 v N (truths N f)) (hN : 1 ≤ N) :
    ∃ L cap, v = .slice (some ⟨L, 0, none⟩) N cap ∧ base ≤ L ∧ L < w.heap.size ∧ Row w w.heap.size (some ⟨L, 0, none⟩) (truths N f) ∧ (∀ j : Nat, w.frozen? ⟨L, j, none⟩ = false) ∧ (∀ j, j < N → w.cell? ⟨L, j, none⟩ = some (.bool (f j))) ∧
      ∀ b x, Row (w.setCell ⟨L, b, none⟩ (.bool x)) w.heap.size (some ⟨L, 0, none⟩) (truths N (upd f b x)) := by
  obtain ⟨L, cap, rfl, hb, hl, hc, hf⟩ := own_form h hN
  refine ⟨L, cap, rfl, hb, hl, Row.of_own h, hf, fun j hj => hc _ _ ?_, fun b x => ?_⟩
  · rw [List.getElem?_eq_getElem (by rw [truths_length]; exact hj), truths_get]
  · have h2 := (h.stored b (.bool x)).1
    rw [truths_set] at h2
    have h3 := Row.of_own h2
    simpa [World.setCell] using h3
end Bv
end Go.Proofs.Ytjogehjgoemdpaa
