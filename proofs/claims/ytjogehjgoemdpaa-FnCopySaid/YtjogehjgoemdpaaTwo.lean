/- Two vectors' variables laid in one statement, in whatever order. -/
import Derived.Test.YtjogehjgoemdpaaImpl2
import Derived.Deep.DeepCutAuto
namespace Go.Proofs.Ytjogehjgoemdpaa
open Go.RowKit
namespace Bv

/-- A vector's variable that nothing was stored to yet. -/
def Box0 (w : World) (n : Nat) : Prop :=
  w.cell? ⟨n, 0, none⟩ = some (.int .i32 0) ∧ w.cell? ⟨n, 1, none⟩ = some (.slice none 0 0) ∧ w.frozen? ⟨n, 0, none⟩ = false ∧ w.frozen? ⟨n, 1, none⟩ = false
theorem Box0.keep {w w' : World} {n : Nat} (h : Box0 w n) (hb : Below w.heap.size w w') : Box0 w' n :=
  ⟨cell_keep hb h.1, cell_keep hb h.2.1, (hb.frozen (p := ⟨n, 0, none⟩) (lt_cell h.1)).trans h.2.2.1, (hb.frozen (p := ⟨n, 1, none⟩) (lt_cell h.1)).trans h.2.2.2⟩
theorem box0_new (W : World) (t : TypeId) : Box0 (W.alloc (.cells #[.int .i32 0, .slice none 0 0] t)) W.heap.size :=
  ⟨new_cell rfl, new_cell rfl, by simp, by simp⟩
theorem box0_1 {W wd : World} {t : TypeId} {n : Nat} (h : Below (W.alloc (.cells #[.int .i32 0, .slice none 0 0] t)).heap.size (W.alloc (.cells #[.int .i32 0, .slice none 0 0] t)) wd) (hn : n = W.heap.size) : Box0 wd n := by
  subst hn
  exact (box0_new W t).keep h
theorem below_one {W wd : World} {o : Obj} (h : Below (W.alloc o).heap.size (W.alloc o) wd) : Below W.heap.size W wd := then_ (then_alloc (Below.refl _ _) _) h
theorem below_two {W wd : World} {o o' : Obj} (h : Below ((W.alloc o).alloc o').heap.size ((W.alloc o).alloc o') wd) : Below W.heap.size W wd := then_ (then_alloc (then_alloc (Below.refl _ _) _) _) h
theorem box0_2 {W wd : World} {t t' : TypeId} {n m : Nat} (h : Below ((W.alloc (.cells #[.int .i32 0, .slice none 0 0] t)).alloc (.cells #[.int .i32 0, .slice none 0 0] t')).heap.size ((W.alloc (.cells #[.int .i32 0, .slice none 0 0] t)).alloc (.cells #[.int .i32 0, .slice none 0 0] t')) wd)
    (hn : n = W.heap.size) (hm : m = W.heap.size + 1) : Box0 wd n ∧ Box0 wd m := by
  subst hn hm
  refine ⟨((box0_new W t).keep (then_alloc (Below.refl _ _) _)).keep h, ?_⟩
  have := box0_1 h rfl
  simpa using this

/-- Two vectors' variables, and the vectors. -/
def TwoBoxes (W X : World) (N : Nat) (f f' : Nat → Bool) (s s' : Value) : Prop :=
  ∃ p q g g' : Nat, s = .pointer (some ⟨p, 0, none⟩) ∧ s' = .pointer (some ⟨q, 0, none⟩) ∧
    (X.cell? ⟨p, 0, none⟩ = some (.int .i32 N) ∧ X.cell? ⟨p, 1, none⟩ = some (.slice (some ⟨g, 0, none⟩) ((N + 31) / 32) ((N + 31) / 32))) ∧
    (X.cell? ⟨q, 0, none⟩ = some (.int .i32 N) ∧ X.cell? ⟨q, 1, none⟩ = some (.slice (some ⟨g', 0, none⟩) ((N + 31) / 32) ((N + 31) / 32))) ∧
    Vec X g 0 N f ∧ Vec X g' 0 N f' ∧ (g ≠ g' ∧ p ≠ g ∧ p ≠ g' ∧ q ≠ g ∧ q ≠ g') ∧ (W.heap.size ≤ g ∧ W.heap.size ≤ g') ∧ Below W.heap.size W X

theorem tb_alloc {W we : World} {N g g' n c c' : Nat} {f f' : Nat → Bool} {t t' : TypeId} (hn : n = (N + 31) / 32) (hc : c = n) (hc' : c' = n) (hv : Vec we g 0 N f) (hv' : Vec we g' 0 N f') (hb : Below W.heap.size W we) (hne : g ≠ g') (h1 : W.heap.size ≤ g) (h2 : W.heap.size ≤ g') :
    TwoBoxes W ((we.alloc (.cells #[.int .i32 N, .slice (some ⟨g, 0, none⟩) n c] t)).alloc (.cells #[.int .i32 N, .slice (some ⟨g', 0, none⟩) n c'] t')) N f f' (.pointer (some ⟨we.heap.size, 0, none⟩)) (.pointer (some ⟨we.heap.size + 1, 0, none⟩)) := by
  subst hc hc' hn
  have l1 := hv.lt
  have l2 := hv'.lt
  refine ⟨_, _, g, g', rfl, rfl, ⟨by go_simp, by go_simp⟩, ⟨by go_simp, by go_simp⟩, (hv.alloc _).alloc _, (hv'.alloc _).alloc _, ⟨hne, by omega, by omega, by omega, by omega⟩, ⟨h1, h2⟩, then_alloc (then_alloc hb _) _⟩
theorem TwoBoxes.swap {W X : World} {N : Nat} {f f' : Nat → Bool} {s s' : Value} (h : TwoBoxes W X N f f' s s') : TwoBoxes W X N f' f s' s := by
  obtain ⟨p, q, g, g', e1, e2, c1, c2, v1, v2, ⟨n1, n2, n3, n4, n5⟩, ⟨l1, l2⟩, hb⟩ := h
  exact ⟨q, p, g', g, e2, e1, c2, c1, v2, v1, ⟨n1.symm, n5, n4, n3, n2⟩, ⟨l2, l1⟩, hb⟩
theorem tb_set {W we : World} {N g g' n c c' p : Nat} {f f' : Nat → Bool} {t : TypeId} (hn : n = (N + 31) / 32) (hc : c = n) (hc' : c' = n) (hv : Vec we g 0 N f) (hv' : Vec we g' 0 N f') (hb : Below W.heap.size W we)
    (z0 : we.cell? ⟨p, 0, none⟩ = some (.int .i32 0)) (z1 : we.cell? ⟨p, 1, none⟩ = some (.slice none 0 0)) (hne : g ≠ g') (h1 : W.heap.size ≤ g) (h2 : W.heap.size ≤ g') (hp : p ≠ g) (hp' : p ≠ g') (hW : W.heap.size ≤ p) :
    TwoBoxes W (((we.setCell ⟨p, 0, none⟩ (.int .i32 N)).setCell ⟨p, 1, none⟩ (.slice (some ⟨g, 0, none⟩) n c)).alloc (.cells #[.int .i32 N, .slice (some ⟨g', 0, none⟩) n c'] t)) N f f' (.pointer (some ⟨p, 0, none⟩)) (.pointer (some ⟨we.heap.size, 0, none⟩)) := by
  subst hc hc' hn
  have l1 := hv.lt
  have l2 := hv'.lt
  have l3 := lt_cell z0
  refine ⟨_, _, g, g', rfl, rfl, ⟨by go_simp, by go_simp⟩, ⟨by go_simp, by go_simp⟩, ((hv.setCell hp _).setCell hp _).alloc _, ((hv'.setCell hp' _).setCell hp' _).alloc _, ⟨hne, hp, hp', by omega, by omega⟩, ⟨h1, h2⟩,
    then_alloc ((hb.setCell (p := ⟨p, 0, none⟩) hW _).setCell (p := ⟨p, 1, none⟩) hW _) _⟩
theorem tb_both {W we : World} {N g g' n c c' p q : Nat} {f f' : Nat → Bool} (hn : n = (N + 31) / 32) (hc : c = n) (hc' : c' = n) (hv : Vec we g 0 N f) (hv' : Vec we g' 0 N f') (hb : Below W.heap.size W we)
    (z0 : we.cell? ⟨p, 0, none⟩ = some (.int .i32 0)) (z1 : we.cell? ⟨p, 1, none⟩ = some (.slice none 0 0)) (y0 : we.cell? ⟨q, 0, none⟩ = some (.int .i32 0)) (y1 : we.cell? ⟨q, 1, none⟩ = some (.slice none 0 0)) (hpq : p ≠ q)
    (hne : g ≠ g') (h1 : W.heap.size ≤ g) (h2 : W.heap.size ≤ g') (hp : p ≠ g) (hp' : p ≠ g') (hW : W.heap.size ≤ p) (hq : q ≠ g) (hq' : q ≠ g') (hWq : W.heap.size ≤ q) :
    TwoBoxes W ((((we.setCell ⟨p, 0, none⟩ (.int .i32 N)).setCell ⟨p, 1, none⟩ (.slice (some ⟨g, 0, none⟩) n c)).setCell ⟨q, 0, none⟩ (.int .i32 N)).setCell ⟨q, 1, none⟩ (.slice (some ⟨g', 0, none⟩) n c')) N f f' (.pointer (some ⟨p, 0, none⟩)) (.pointer (some ⟨q, 0, none⟩)) := by
  subst hc hc' hn
  refine ⟨_, _, g, g', rfl, rfl, ⟨by go_simp, by go_simp⟩, ⟨by go_simp, by go_simp⟩, (((hv.setCell hp _).setCell hp _).setCell hq _).setCell hq _, (((hv'.setCell hp' _).setCell hp' _).setCell hq' _).setCell hq' _, ⟨hne, hp, hp', hq, hq'⟩, ⟨h1, h2⟩,
    (((hb.setCell (p := ⟨p, 0, none⟩) hW _).setCell (p := ⟨p, 1, none⟩) hW _).setCell (p := ⟨q, 0, none⟩) hWq _).setCell (p := ⟨q, 1, none⟩) hWq _⟩

end Bv
end Go.Proofs.Ytjogehjgoemdpaa
