/- Words for memory: a slice that reads as values (Row), a vector of bits in the words at an address (Vec), a frame for writes into one vector (Only). -/
import Derived.Test.YtjogehjgoemdpaaPlain
import Derived.Below
import Derived.OwnWalk
import Derived.Laws.OwnMore
import Derived.Laws.NewBlocks
import Derived.Deep.Draws
namespace Go.Proofs.Ytjogehjgoemdpaa
open Go Go.RowKit
namespace Bv

/-- A fact laid aside, as it is spelt. -/
theorem hide {p : Prop} (h : p) : Hid p := h
/-- A cell that is there is there behind a call that turns nothing below B. -/
theorem old_cell {B : Nat} {W w1 : World} (hb : Below B W w1) {b o : Nat} {v : Value} (hlt : b < B) (hc : W.cell? ⟨b, o, none⟩ = some v) : w1.cell? ⟨b, o, none⟩ = some v := (hb.cell (p := ⟨b, o, none⟩) hlt).trans hc
theorem old_free {B : Nat} {W w1 : World} (hb : Below B W w1) {b o : Nat} (hlt : b < B) (hc : W.frozen? ⟨b, o, none⟩ = false) : w1.frozen? ⟨b, o, none⟩ = false := (hb.frozen (p := ⟨b, o, none⟩) hlt).trans hc
theorem cell_keep {w w' : World} (hb : Below w.heap.size w w') {p : Addr} {v : Value} (h : w.cell? p = some v) : w'.cell? p = some v := (hb.cell (World.block_lt_of_cell? w p h)).trans h
theorem then_ {w W W' : World} (h : Below w.heap.size w W) (hb : Below W.heap.size W W') : Below w.heap.size w W' := h.trans (hb.mono h.size)
theorem then_alloc {w W : World} (h : Below w.heap.size w W) (o : Obj) : Below w.heap.size w (W.alloc o) := h.alloc h.size o
theorem next_ {w W W' : World} (hb : Below W.heap.size W W') (h : Below w.heap.size w W) : Below w.heap.size w W' := then_ h hb
theorem drewN_below {B : Nat} {a w : World} (h : Below B a w) (n : Nat) : Below B a (w.drewN n) := ⟨h.os, h.tape, h.output, h.size, h.block⟩
theorem undrew {w w' : World} (h : Below w.drew.heap.size w.drew w') : Below w.heap.size w w' := ⟨h.os, h.tape, h.output, h.size, h.block⟩
theorem lt_cell {w : World} {b o : Nat} {v : Value} (h : w.cell? ⟨b, o, none⟩ = some v) : b < w.heap.size := World.block_lt_of_cell? w _ h
theorem block_add (a : Addr) (n : Nat) : (a.add n).block = a.block := by unfold Addr.add; split <;> rfl

/-- The slice with address A reads as the values xs; its block lies below B. -/
def Row (w : World) (B : Nat) (A : Option Addr) (xs : List Value) : Prop :=
  ∀ k u, xs[k]? = some u → ∃ ad, A = some ad ∧ ad.block < B ∧ w.cell? (ad.add k) = some u

section
variable {w w' : World} {B : Nat} {A : Option Addr} {xs : List Value}
theorem Row.below (h : Row w B A xs) (hb : Below B w w') : Row w' B A xs := fun k u hk => by
  obtain ⟨ad, e, hl, hc⟩ := h k u hk
  exact ⟨ad, e, hl, (hb.cell (by rw [block_add]; exact hl)).trans hc⟩
theorem Row.mono {B' : Nat} (h : Row w B A xs) (hB : B ≤ B') : Row w B' A xs := fun k u hk => by
  obtain ⟨ad, e, hl, hc⟩ := h k u hk
  exact ⟨ad, e, by omega, hc⟩
theorem Row.get (h : Row w B A xs) (k : Nat) (hk : k < xs.length) : ∃ ad, A = some ad ∧ ad.block < B ∧ w.cell? (ad.add k) = some xs[k] :=
  h k _ (List.getElem?_eq_getElem hk)
theorem Row.of_own {base : Nat} {e : TypeId} {n c : Nat} (h : w.ownsRow base e 1 (.slice A n c) n xs) : Row w w.heap.size A xs := by
  intro k u hk
  have hn : 0 < n := by
    have h1 := h.1
    have h2 : k < xs.length := (List.getElem?_eq_some_iff.1 hk).1
    omega
  rcases h.2 with ⟨h', h''⟩ | ⟨g, cap, cur, h', hb, hg, hnc, hcm, hcs, htake⟩
  · simp at h'
    omega
  · simp only [Value.slice.injEq] at h'
    obtain ⟨rfl, rfl⟩ : A = some ⟨g, 0, none⟩ ∧ c = cap := by simpa using h'
    refine ⟨_, rfl, ?_, h.cells (g := g) rfl k u hk⟩
    rcases Nat.lt_or_ge g w.heap.size with hlt | hge
    · exact hlt
    · rw [Array.getElem?_eq_none hge] at hg; cases hg
end

theorem own_slice {w : World} {base : Nat} {e : TypeId} {v : Value} {n : Nat} {xs : List Value} (h : w.ownsRow base e 1 v n xs) : ∃ A c, v = .slice A n c := by
  rcases h.2 with ⟨rfl, rfl⟩ | ⟨g, cap, cur, rfl, _⟩
  · exact ⟨none, 0, rfl⟩
  · exact ⟨_, _, rfl⟩
/-- A row of the call's own, read as a slice. -/
theorem own_row {w : World} {base : Nat} {e : TypeId} {v : Value} {n : Nat} {xs : List Value} (h : w.ownsRow base e 1 v n xs) : ∃ A c, v = .slice A n c ∧ Row w w.heap.size A xs := by
  obtain ⟨A, c, rfl⟩ := own_slice h
  exact ⟨A, c, rfl, Row.of_own h⟩
/-- The list of numbers as cells. -/
def ints (l : List Nat) : List Value := l.map fun (k : Nat) => Value.int .i64 (k : Int)
def bools (l : List Bool) : List Value := l.map .bool
theorem ints_snoc (l : List Nat) (k : Nat) : ints (l ++ [k]) = ints l ++ [.int .i64 (k : Int)] := by simp [ints]
theorem ints_length (l : List Nat) : (ints l).length = l.length := by simp [ints]
theorem bools_length (l : List Bool) : (bools l).length = l.length := by simp [bools]

/-- N bits f lie in the words at offset off of block g. -/
structure Vec (w : World) (g off N : Nat) (f : Nat → Bool) : Prop where
  lt : g < w.heap.size
  cell : ∀ j, j < (N + 31) / 32 → w.cell? ⟨g, off + j, none⟩ = some (.int .u32 (word f j : Nat))
  free : ∀ j, j < (N + 31) / 32 → w.frozen? ⟨g, off + j, none⟩ = false

/-- Of what was there only the cells off .. off + n - 1 of block g may have turned. -/
structure Only (w w' : World) (g off n : Nat) : Prop where
  grown : w.grownBy w' (some g)
  cell : ∀ k, (k < off ∨ off + n ≤ k) → w'.cell? ⟨g, k, none⟩ = w.cell? ⟨g, k, none⟩
  free : ∀ k, w'.frozen? ⟨g, k, none⟩ = w.frozen? ⟨g, k, none⟩

section
variable {w w' w'' : World} {g off N n : Nat} {f : Nat → Bool}
theorem Vec.congr {f' : Nat → Bool} (h : Vec w g off N f) (hf : ∀ i, i < 32 * ((N + 31) / 32) → f i = f' i) : Vec w g off N f' :=
  ⟨h.lt, fun j hj => by rw [h.cell j hj, word_congr (g := f') fun i hi => hf _ (by omega)], h.free⟩
theorem Vec.below {B : Nat} (h : Vec w g off N f) (hb : Below B w w') (hg : g < B) : Vec w' g off N f :=
  ⟨Nat.lt_of_lt_of_le h.lt hb.size, fun j hj => (hb.cell (p := ⟨g, off + j, none⟩) hg).trans (h.cell j hj), fun j hj => (hb.frozen (p := ⟨g, off + j, none⟩) hg).trans (h.free j hj)⟩
theorem Vec.keep (h : Vec w g off N f) (hb : Below w.heap.size w w') : Vec w' g off N f := h.below hb h.lt
theorem Vec.alloc (h : Vec w g off N f) (o : Obj) : Vec (w.alloc o) g off N f := h.keep ((Below.refl _ _).alloc (Nat.le_refl _) o)
theorem Vec.drew (h : Vec w g off N f) : Vec w.drew g off N f := ⟨h.lt, h.cell, h.free⟩
theorem Vec.setCell (h : Vec w g off N f) {p : Addr} (hp : p.block ≠ g) (u : Value) : Vec (w.setCell p u) g off N f :=
  ⟨by simpa [World.setCell] using h.lt, fun j hj => (World.cell?_of_block (a := ⟨g, off + j, none⟩) (Below.heap_setCell w p u g (fun e => hp e.symm))).trans (h.cell j hj),
   fun j hj => (World.frozen?_of_block (a := ⟨g, off + j, none⟩) (Below.heap_setCell w p u g (fun e => hp e.symm))).trans (h.free j hj)⟩
theorem Only.refl (w : World) (g off n : Nat) : Only w w g off n := ⟨World.grownBy.refl w _, fun _ _ => rfl, fun _ => rfl⟩
theorem grown_trans {row : Option Nat} (h : w.grownBy w' row) (k : w'.grownBy w'' row) : w.grownBy w'' row :=
  ⟨k.os.trans h.os, k.tape.trans h.tape, k.output.trans h.output, Nat.le_trans h.size k.size, fun i hi hn => (k.block i (Nat.lt_of_lt_of_le hi h.size) hn).trans (h.block i hi hn)⟩
theorem grown_of_below {row : Option Nat} (h : Below w.heap.size w w') : w.grownBy w' row := ⟨h.os, h.tape, h.output, h.size, fun i hi _ => h.block i hi⟩
theorem Only.trans (h : Only w w' g off n) (k : Only w' w'' g off n) : Only w w'' g off n :=
  ⟨grown_trans h.grown k.grown, fun i hi => (k.cell i hi).trans (h.cell i hi), fun i => (k.free i).trans (h.free i)⟩
theorem Only.of_below (h : Below w.heap.size w w') (hg : g < w.heap.size) : Only w w' g off n :=
  ⟨grown_of_below h, fun k _ => h.cell (p := ⟨g, k, none⟩) hg, fun k => h.frozen (p := ⟨g, k, none⟩) hg⟩
theorem Only.setCell (w : World) (g off n k : Nat) (u : Value) (h : off ≤ k ∧ k < off + n) : Only w (w.setCell ⟨g, k, none⟩ u) g off n :=
  ⟨⟨rfl, rfl, rfl, by simp [World.setCell], fun i _ hi => Below.heap_setCell w _ u i (fun e => hi (by simp [e]))⟩,
   fun j hj => by rw [World.cell?_setCell_other]; intro e; simp at e; omega,
   fun j => by simp⟩
theorem Only.below {B : Nat} (h : Only w w' g off n) (hB : B ≤ g) (hw : B ≤ w.heap.size) : Below B w w' :=
  ⟨h.grown.os, h.grown.tape, h.grown.output, h.grown.size, fun i hi => h.grown.block i (by omega) (by simp; omega)⟩
/-- A cell elsewhere. -/
theorem Only.cell_far (h : Only w w' g off n) {p : Addr} (hp : p.block < w.heap.size) (hne : p.block ≠ g) : w'.cell? p = w.cell? p :=
  World.cell?_of_block (h.grown.block p.block hp (by simp; exact hne))
theorem Only.frozen_far (h : Only w w' g off n) {p : Addr} (hp : p.block < w.heap.size) (hne : p.block ≠ g) : w'.frozen? p = w.frozen? p :=
  World.frozen?_of_block (h.grown.block p.block hp (by simp; exact hne))
/-- Another vector is as it was. -/
theorem Only.vec {g' off' N' : Nat} {f' : Nat → Bool} (h : Only w w' g off n) (hv : Vec w g' off' N' f') (hd : g' ≠ g ∨ off' + (N' + 31) / 32 ≤ off ∨ off + n ≤ off') : Vec w' g' off' N' f' := by
  by_cases hg : g' = g
  · subst hg
    exact ⟨Nat.lt_of_lt_of_le hv.lt h.grown.size, fun j hj => (h.cell _ (by omega)).trans (hv.cell j hj), fun j hj => (h.free _).trans (hv.free j hj)⟩
  · exact ⟨Nat.lt_of_lt_of_le hv.lt h.grown.size, fun j hj => (h.cell_far (p := ⟨g', off' + j, none⟩) hv.lt hg).trans (hv.cell j hj), fun j hj => (h.frozen_far (p := ⟨g', off' + j, none⟩) hv.lt hg).trans (hv.free j hj)⟩
theorem Only.row {B : Nat} {A : Option Addr} {xs : List Value} (h : Only w w' g off n) (hr : Row w B A xs) (hB : B ≤ w.heap.size) (hg : B ≤ g) : Row w' B A xs :=
  hr.below (h.below hg hB)
/-- The word that is written. -/
theorem Vec.put (h : Vec w g off N f) (j : Nat) (hj : j < (N + 31) / 32) (f' : Nat → Bool) (hf : ∀ k, k < (N + 31) / 32 → k ≠ j → word f' k = word f k) :
    Vec (w.setCell ⟨g, off + j, none⟩ (.int .u32 (word f' j : Nat))) g off N f' := by
  refine ⟨by simpa [World.setCell] using h.lt, fun k hk => ?_, fun k hk => by simpa using h.free k hk⟩
  by_cases e : k = j
  · subst e; exact World.cell?_setCell_same _ _ _ (h.cell k hk)
  · rw [World.cell?_setCell_other _ _ _ _ (by simp; omega), h.cell k hk, hf k hk e]
end
end Bv
end Go.Proofs.Ytjogehjgoemdpaa
