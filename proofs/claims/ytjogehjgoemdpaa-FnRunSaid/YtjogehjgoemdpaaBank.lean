/- The vectors of one bulk, listed in a row of two cells each. -/
import Derived.Test.YtjogehjgoemdpaaBitk
import Derived.Test.YtjogehjgoemdpaaBulk
import Derived.Test.YtjogehjgoemdpaaVec2
import Derived.Test.YtjogehjgoemdpaaVec3
import Derived.Test.YtjogehjgoemdpaaImpl1
namespace Go.Proofs.Ytjogehjgoemdpaa
open Go.RowKit
namespace Bv

/-- The first k vectors of a bulk of C, as cells. -/
def bvs (N C g k : Nat) : List Value := (List.range k).flatMap fun t => [.int .i32 N, .slice (some ⟨g, t * ((N + 31) / 32), none⟩) ((N + 31) / 32) ((N + 31) / 32 * C - t * ((N + 31) / 32))]
theorem bvs_succ (N C g k : Nat) : bvs N C g (k + 1) = bvs N C g k ++ [.int .i32 N, .slice (some ⟨g, k * ((N + 31) / 32), none⟩) ((N + 31) / 32) ((N + 31) / 32 * C - k * ((N + 31) / 32))] := by
  simp [bvs, List.range_succ]
theorem bvs_length (N C g : Nat) : ∀ k, (bvs N C g k).length = 2 * k
  | 0 => rfl
  | k + 1 => by rw [bvs_succ, List.length_append, bvs_length N C g k]; simp; omega
theorem bvs_get (N C g t : Nat) : ∀ k, t < k → (bvs N C g k)[t * 2]? = some (.int .i32 N) ∧ (bvs N C g k)[t * 2 + 1]? = some (.slice (some ⟨g, t * ((N + 31) / 32), none⟩) ((N + 31) / 32) ((N + 31) / 32 * C - t * ((N + 31) / 32)))
  | 0, h => by omega
  | k + 1, h => by
    rw [bvs_succ]
    by_cases e : t < k
    · obtain ⟨h1, h2⟩ := bvs_get N C g t k e
      rw [List.getElem?_append_left (by rw [bvs_length]; omega), List.getElem?_append_left (by rw [bvs_length]; omega)]
      exact ⟨h1, h2⟩
    · have e : t = k := by omega
      subst e
      rw [List.getElem?_append_right (by rw [bvs_length]; omega), List.getElem?_append_right (by rw [bvs_length]; omega), bvs_length]
      rw [show t * 2 - 2 * t = 0 by omega, show t * 2 + 1 - 2 * t = 1 by omega]
      exact ⟨rfl, rfl⟩

/-- C vectors of one bulk at block g, listed at block L; they hold F. -/
structure Bank (w wr : World) (N C g L : Nat) (F : Nat → Nat → Bool) : Prop where
  row : ∀ t, t < C → wr.cell? ⟨L, t * 2, none⟩ = some (.int .i32 N) ∧ wr.cell? ⟨L, t * 2 + 1, none⟩ = some (.slice (some ⟨g, t * ((N + 31) / 32), none⟩) ((N + 31) / 32) ((N + 31) / 32 * C - t * ((N + 31) / 32)))
  lt : L < wr.heap.size
  far : L ≠ g
  vec : ∀ t, t < C → Vec wr g (t * ((N + 31) / 32)) N (F t)
  below : Below w.heap.size w wr
  new : w.heap.size ≤ g
section
variable {w wr w' : World} {N C g L : Nat} {F : Nat → Nat → Bool}
theorem Bank.keep (h : Bank w wr N C g L F) (hb : Below wr.heap.size wr w') : Bank w w' N C g L F :=
  ⟨fun t ht => ⟨cell_keep hb (h.row t ht).1, cell_keep hb (h.row t ht).2⟩, Nat.lt_of_lt_of_le h.lt hb.size, h.far, fun t ht => (h.vec t ht).keep hb, then_ h.below hb, h.new⟩
theorem Bank.keepB {B : Nat} (h : Bank w wr N C g L F) (hb : Below B wr w') (hL : L < B) (hg : g < B) (hB : w.heap.size ≤ B) : Bank w w' N C g L F :=
  ⟨fun t ht => ⟨(hb.cell (p := ⟨L, t * 2, none⟩) hL).trans (h.row t ht).1, (hb.cell (p := ⟨L, t * 2 + 1, none⟩) hL).trans (h.row t ht).2⟩, Nat.lt_of_lt_of_le h.lt hb.size, h.far, fun t ht => (h.vec t ht).below hb hg, h.below.trans (hb.mono hB), h.new⟩
theorem aside_of {n t s g : Nat} : Aside2 g (t * n) g (s * n) n := by
  by_cases h : t = s
  · subst h; exact Or.inl ⟨rfl, rfl⟩
  · rcases Nat.lt_or_ge t s with h1 | h1
    · have h2 := Nat.mul_le_mul_right n (show t + 1 ≤ s by omega)
      rw [Nat.add_mul, Nat.one_mul] at h2
      exact Or.inr (Or.inr (Or.inl h2))
    · have h2 := Nat.mul_le_mul_right n (show s + 1 ≤ t by omega)
      rw [Nat.add_mul, Nat.one_mul] at h2
      exact Or.inr (Or.inr (Or.inr h2))
/-- Vector s is written. -/
theorem Bank.put (h : Bank w wr N C g L F) {s : Nat} {f : Nat → Bool} (hv : Vec w' g (s * ((N + 31) / 32)) N f) (ho : Only wr w' g (s * ((N + 31) / 32)) ((N + 31) / 32)) :
    Bank w w' N C g L (fun t => if t = s then f else F t) :=
  ⟨fun t ht => ⟨far_cell ho (h.row t ht).1 h.far, far_cell ho (h.row t ht).2 h.far⟩, Nat.lt_of_lt_of_le h.lt ho.grown.size, h.far, fun t ht => by
    show Vec w' g _ N (if t = s then f else F t)
    by_cases e : t = s
    · subst e; rw [if_pos rfl]; exact hv
    · rw [if_neg e]
      refine ho.vec (h.vec t ht) (Or.inr ?_)
      rcases Nat.lt_or_ge t s with h1 | h1
      · have h2 := Nat.mul_le_mul_right ((N + 31) / 32) (show t + 1 ≤ s by omega)
        rw [Nat.add_mul, Nat.one_mul] at h2
        exact Or.inl h2
      · have h2 := Nat.mul_le_mul_right ((N + 31) / 32) (show s + 1 ≤ t by omega)
        rw [Nat.add_mul, Nat.one_mul] at h2
        exact Or.inr h2,
   h.below.trans (ho.below h.new h.below.size), h.new⟩
end

/-- A bulk's variable at p, of which k vectors were given; all vectors hold nothing. -/
structure Left (w wr : World) (N C g p k : Nat) : Prop where
  c0 : ∃ off, wr.cell? ⟨p, 0, none⟩ = some (.slice (some ⟨g, off, none⟩) ((N + 31) / 32 * C - k * ((N + 31) / 32)) ((N + 31) / 32 * C - k * ((N + 31) / 32))) ∧ (k < C → off = k * ((N + 31) / 32))
  c1 : wr.cell? ⟨p, 1, none⟩ = some (.int .i32 N)
  c2 : wr.cell? ⟨p, 2, none⟩ = some (.int .i32 ((N + 31) / 32 : Nat))
  free : wr.frozen? ⟨p, 0, none⟩ = false
  vec : ∀ t, t < C → Vec wr g (t * ((N + 31) / 32)) N fun _ => false
  below : Below w.heap.size w wr
theorem left_room {n C k : Nat} (hk : k < C) : k * n + n ≤ n * C := by
  have h := Nat.mul_le_mul_right n (show k + 1 ≤ C by omega)
  rw [Nat.add_mul, Nat.one_mul, Nat.mul_comm C n] at h
  exact h
theorem Left.keep {w wr w' : World} {N C g p k B : Nat} (h : Left w wr N C g p k) (hb : Below B wr w') (hp : p < B) (hg : g < B) (hB : w.heap.size ≤ B) : Left w w' N C g p k := by
  obtain ⟨off, h0, h1⟩ := h.c0
  exact ⟨⟨off, (hb.cell (p := ⟨p, 0, none⟩) hp).trans h0, h1⟩, (hb.cell (p := ⟨p, 1, none⟩) hp).trans h.c1, (hb.cell (p := ⟨p, 2, none⟩) hp).trans h.c2, (hb.frozen (p := ⟨p, 0, none⟩) hp).trans h.free, fun t ht => (h.vec t ht).below hb hg, h.below.trans (hb.mono hB)⟩
theorem Left.step {w wr w' : World} {N C g p k off n len : Nat} (h : Left w wr N C g p k) (h1 : 1 ≤ N) (hgp : g ≠ p) (hp : w.heap.size ≤ p) (hn : n = (N + 31) / 32) (hlen : len = n * C - k * n) (ho : off = k * n)
    (hc : ∃ off', w'.cell? ⟨p, 0, none⟩ = some (.slice (some ⟨g, off', none⟩) (len - n) (len - n)) ∧ (n < len → off' = off + n)) (hf : w'.frozen? ⟨p, 0, none⟩ = false) (hO : Only wr w' p 0 1) : Left w w' N C g p (k + 1) := by
  obtain ⟨off', h0, h2⟩ := hc
  have e : (k + 1) * n = k * n + n := by rw [Nat.add_mul, Nat.one_mul]
  refine ⟨⟨off', ?_, fun hk2 => ?_⟩, (hO.cell 1 (by omega)).trans h.c1, (hO.cell 2 (by omega)).trans h.c2, hf, fun t ht => hO.vec (h.vec t ht) (Or.inl hgp), h.below.trans (hO.below hp h.below.size)⟩
  · rw [h0, ← hn, hlen, e, Nat.sub_sub]
  · rw [← hn, e, ← ho]
    have := left_room (n := n) hk2
    rw [e] at this
    exact h2 (by omega)
/-- A row of the call's own, whose length is not 0. -/
theorem own_form {w : World} {base size k : Nat} {e : TypeId} {v : Value} {xs : List Value} (h : w.ownsRow base e size v k xs) (hk : 1 ≤ k) :
    ∃ L cap, v = .slice (some ⟨L, 0, none⟩) k cap ∧ base ≤ L ∧ L < w.heap.size ∧ (∀ (j : Nat) (u : Value), xs[j]? = some u → w.cell? ⟨L, j, none⟩ = some u) ∧ (∀ j : Nat, w.frozen? ⟨L, j, none⟩ = false) := by
  have hx := h.1
  rcases h.2 with ⟨_, h0⟩ | ⟨L, cap, cur, rfl, hb, hg, hnc, hcm, hcs, htake⟩
  · omega
  · refine ⟨L, cap, rfl, hb, lt_some hg, fun j u hj => ?_, fun j => h.frozenAt j⟩
    have hjx := (List.getElem?_eq_some_iff.1 hj).1
    exact (h.cellAt j (by omega)).trans hj
theorem Left.bank {w wr : World} {N C g p L : Nat} (h : Left w wr N C g p C) (hr : ∀ (j : Nat) (u : Value), (bvs N C g C)[j]? = some u → wr.cell? ⟨L, j, none⟩ = some u) (hL : L < wr.heap.size) (hA : L ≠ g) (hg : w.heap.size ≤ g) : Bank w wr N C g L fun _ _ => false :=
  ⟨fun t ht => ⟨hr _ _ (bvs_get N C g t C ht).1, hr _ _ (bvs_get N C g t C ht).2⟩, hL, hA, h.vec, h.below, hg⟩
theorem own_base {w : World} {base size k n c : Nat} {e : TypeId} {v : Value} {xs : List Value} {A : Option Addr} (h : w.ownsRow base e size v k xs) (hv : v = .slice A n c) : ∀ ad, A = some ad → base ≤ ad.block := fun ad ha => by
  subst hv ha
  exact (h.lt ad.block rfl).1
theorem info_ints : (Try.prog.info? 22).map (fun i => (i.zero, i.size, i.bytes)) = some (some (.slice none 0 0), 1, 24) := by kernel_rfl
end Bv
end Go.Proofs.Ytjogehjgoemdpaa
