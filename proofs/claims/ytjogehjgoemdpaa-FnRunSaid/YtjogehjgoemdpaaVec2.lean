/- Contracts of Unset, Clear, And, Or, AndNot, Not: methods that write one vector. -/
import Derived.Test.YtjogehjgoemdpaaCore
import Derived.BigQuiet
import Derived.Deep.QuietTactic
import Derived.RegionTactic
namespace Go.Proofs.Ytjogehjgoemdpaa
open Go.RowKit
namespace Bv

set_option maxHeartbeats 400000 in
theorem mUnset_nat (N i g off cap : Nat) (f : Nat → Bool) (w : World) (h1 : i < N) (h2 : N ≤ 300) (hv : Vec w g off N f) :
    Calls Try.prog 59 #[.agg #[.int .i32 N, .slice (some ⟨g, off, none⟩) ((N + 31) / 32) cap], .int .i32 i] w (Wrote w g off N (upd f i false)) := by
  have hg := hv.lt
  have hc := hv.cell (i / 32) (by omega)
  have hf := hv.free (i / 32) (by omega)
  go_enter Try.func59, Try.ntmps59
  go_wp2
  go_end0
  have e1 : (bits .andNot .u32 (word f (i / 32) : Nat) (2 ^ (i % 32) % 4294967296) : Int) = ((word (upd f i false) (i / 32) : Nat) : Int) := by
    rw [pow_int (Nat.mod_lt _ (by decide)), u32_andNot_nat _ _ (word_lt f _) (pow_lt32 (Nat.mod_lt _ (by decide))), word_upd_false]
  refine ⟨rfl, ?_, ?_⟩
  · rw [e1]
    exact (hv.put (i / 32) (by omega) (upd f i false) fun k _ hk => word_upd_other f i k false hk).alloc _
  · exact (Only.setCell w g off ((N + 31) / 32) (off + i / 32) _ (by omega)).trans (Only.of_below ((Below.refl _ _).alloc (Nat.le_refl _) _) (by simpa [World.setCell] using hg))

/-- A vector is being written, word by word: the first k words are those of r. -/
structure Part (w0 wr : World) (g off n k : Nat) (r : Nat → Bool) : Prop where
  only : Only w0 wr g off n
  done : ∀ j, j < k → wr.cell? ⟨g, off + j, none⟩ = some (.int .u32 (word r j : Nat))
  rest : ∀ j, k ≤ j → wr.cell? ⟨g, off + j, none⟩ = w0.cell? ⟨g, off + j, none⟩
theorem Part.start (w : World) (g off n : Nat) (r : Nat → Bool) : Part w w g off n 0 r := ⟨Only.refl _ _ _ _, fun j hj => absurd hj (by omega), fun _ _ => rfl⟩
theorem Part.drewN {w0 wr : World} {g off n k : Nat} {r : Nat → Bool} (h : Part w0 wr g off n k r) (m : Nat) : Part w0 (wr.drewN m) g off n k r := by
  refine ⟨⟨?_, h.only.cell, h.only.free⟩, h.done, h.rest⟩
  have := h.only.grown
  exact ⟨this.os, this.tape, this.output, this.size, this.block⟩
theorem Part.drew {w0 wr : World} {g off n k : Nat} {r : Nat → Bool} (h : Part w0 wr g off n k r) : Part w0 wr.drew g off n k r := by
  refine ⟨⟨?_, h.only.cell, h.only.free⟩, h.done, h.rest⟩
  have := h.only.grown
  exact ⟨this.os, this.tape, this.output, this.size, this.block⟩
theorem Part.step {w0 wr : World} {g off n k : Nat} {r : Nat → Bool} (h : Part w0 wr g off n k r) (hk : k < n) (hc : (w0.cell? ⟨g, off + k, none⟩).isSome = true) : Part w0 (wr.setCell ⟨g, off + k, none⟩ (.int .u32 (word r k : Nat))) g off n (k + 1) r := by
  refine ⟨h.only.trans (Only.setCell wr g off n (off + k) _ (by omega)), fun j hj => ?_, fun j hj => ?_⟩
  · by_cases e : j = k
    · subst e
      rw [← h.rest j (Nat.le_refl _)] at hc
      exact World.cell?_setCell_same' wr _ _ hc
    · rw [World.cell?_setCell_other _ _ _ _ (fun e' => by injection e' with _ h2; omega)]
      exact h.done j (by omega)
  · rw [World.cell?_setCell_other _ _ _ _ (fun e' => by injection e' with _ h2; omega)]
    exact h.rest j (by omega)
/-- Where a vector that is read lies to the one that is written: it is the same one, or apart from it. -/
def Aside2 (g off gd od n : Nat) : Prop := (g = gd ∧ off = od) ∨ g ≠ gd ∨ off + n ≤ od ∨ od + n ≤ off
theorem Part.read {w0 wr : World} {gd od n k : Nat} {r : Nat → Bool} (h : Part w0 wr gd od n k r) {g off N : Nat} {f : Nat → Bool} (hv : Vec w0 g off N f) (hn : (N + 31) / 32 = n) (ha : Aside2 g off gd od n) (hk : k < n) :
    wr.cell? ⟨g, off + k, none⟩ = some (.int .u32 (word f k : Nat)) := by
  rcases ha with ⟨rfl, rfl⟩ | ha | ha
  · rw [h.rest k (Nat.le_refl _)]; exact hv.cell k (by omega)
  · rw [h.only.cell_far (p := ⟨g, off + k, none⟩) hv.lt ha]; exact hv.cell k (by omega)
  · by_cases e : g = gd
    · subst e
      rw [h.only.cell _ (by omega)]; exact hv.cell k (by omega)
    · rw [h.only.cell_far (p := ⟨g, off + k, none⟩) hv.lt e]; exact hv.cell k (by omega)
theorem Part.vec {w0 wr : World} {g off n N : Nat} {r f : Nat → Bool} (h : Part w0 wr g off n n r) (hn : (N + 31) / 32 = n) (hv : Vec w0 g off N f) : Vec wr g off N r :=
  ⟨Nat.lt_of_lt_of_le hv.lt h.only.grown.size, fun j hj => h.done j (by omega), fun j hj => (h.only.free _).trans (hv.free j hj)⟩

set_option maxHeartbeats 800000 in
theorem mAnd_any (N gd od cd g1 o1 c1 g2 o2 c2 : Nat) (fd f1 f2 : Nat → Bool) (w : World) (h1 : 1 ≤ N) (h2 : N ≤ 300) (hd : Vec w gd od N fd) (hv1 : Vec w g1 o1 N f1) (hv2 : Vec w g2 o2 N f2)
    (ha1 : Aside2 g1 o1 gd od ((N + 31) / 32)) (ha2 : Aside2 g2 o2 gd od ((N + 31) / 32)) :
    Calls Try.prog 54 #[.agg #[.int .i32 N, .slice (some ⟨gd, od, none⟩) ((N + 31) / 32) cd], .agg #[.int .i32 N, .slice (some ⟨g1, o1, none⟩) ((N + 31) / 32) c1], .agg #[.int .i32 N, .slice (some ⟨g2, o2, none⟩) ((N + 31) / 32) c2]] w
      (Wrote w gd od N fun i => f1 i && f2 i) := by
  have Ha1 := hide ha1
  have Ha2 := hide ha2
  generalize hn : (N + 31) / 32 = n at *
  have Hn := hide hn
  have hn1 : 1 ≤ n := by omega
  have hn2 : n ≤ 10 := by omega
  have hn5 : ((n : Int) == 0) = false := by rw [beq_eq_false_iff_ne]; omega
  have hn6 : (1 : Int) ≤ (n : Int) := by omega
  have s1 : IntKind.i64.wrap ((n : Int) - 1) = (n : Int) - 1 := IntWalk.i64_in _ (by omega)
  have s2 : ((n : Int) - 1).toNat = n - 1 := by omega
  have hn4 : (n : Int) - 1 < (n : Int) := by omega
  have hgd := hd.lt
  clear hn ha1 ha2
  go_enter Try.func54, Try.ntmps54
  go_wp2
  generalize hW : ((w.alloc (.cells #[.int .i32 N, .slice (some ⟨gd, od, none⟩) n cd] 60)).alloc (.cells #[.int .i32 N, .slice (some ⟨g1, o1, none⟩) n c1] 60)).alloc (.cells #[.int .i32 N, .slice (some ⟨g2, o2, none⟩) n c2] 60) = W
  have q3 : W.cell? ⟨w.heap.size, 1, none⟩ = some (.slice (some ⟨gd, od, none⟩) n cd) := by rw [← hW]; clear hW; go_simp
  have q4 : W.cell? ⟨w.heap.size + 1, 1, none⟩ = some (.slice (some ⟨g1, o1, none⟩) n c1) := by rw [← hW]; clear hW; go_simp
  have q5 : W.cell? ⟨w.heap.size + 1 + 1, 1, none⟩ = some (.slice (some ⟨g2, o2, none⟩) n c2) := by rw [← hW]; clear hW; go_simp
  have hbW : Below w.heap.size w W := by rw [← hW]; exact then_alloc (then_alloc (then_alloc (Below.refl _ _) _) _) _
  clear hW
  have Hd := hide (hd.keep hbW)
  have Hv1 := hide (hv1.keep hbW)
  have Hv2 := hide (hv2.keep hbW)
  have HbW := hide hbW
  clear hd hv1 hv2 hbW
  have hcd := Hd.out.cell (n - 1) (by have := Hn.out; omega)
  have hc2 := Hv2.out.cell (n - 1) (by have := Hn.out; omega)
  go_quiet (fail)
  clear s1 s2 hcd hc2 hn4
  go_wp2
  go_loopw [31] (fun i wr => ∃ k : Nat, k ≤ n ∧ i = .int .i64 k ∧ Part W wr gd od n k (fun i => f1 i && f2 i)) (fun i _ => n - (intOf i).toNat)
  case atStart => exact ⟨0, Nat.zero_le _, rfl, (Part.start W gd od n _).drewN _⟩
  case round =>
    obtain ⟨k, hk, rfl, hp⟩ := hrel
    by_cases hlt : k < n
    · have k3 : wr.cell? ⟨w.heap.size, 1, none⟩ = some (.slice (some ⟨gd, od, none⟩) n cd) := (hp.only.cell_far (p := ⟨w.heap.size, 1, none⟩) (lt_cell q3) (by show w.heap.size ≠ gd; omega)).trans q3
      have k5 : wr.cell? ⟨w.heap.size + 1 + 1, 1, none⟩ = some (.slice (some ⟨g2, o2, none⟩) n c2) := (hp.only.cell_far (p := ⟨w.heap.size + 1 + 1, 1, none⟩) (lt_cell q5) (by show w.heap.size + 1 + 1 ≠ gd; omega)).trans q5
      have r1 := hp.read Hv1.out Hn.out Ha1.out hlt
      have r2 := hp.read Hv2.out Hn.out Ha2.out hlt
      have hcd := Hd.out.cell k (by have := Hn.out; omega)
      have rd : ∃ v, wr.cell? ⟨gd, od + k, none⟩ = some v := ⟨_, (hp.rest k (Nat.le_refl _)).trans hcd⟩
      obtain ⟨vd, rd⟩ := rd
      have fd1 := (hp.only.free (od + k)).trans (Hd.out.free k (by have := Hn.out; omega))
      have Hp := hide hp
      have Hcd := hide hcd
      have i0 : (0 : Int) ≤ (k : Int) := by omega
      have i1 : (k : Int) < (n : Int) := by omega
      have e1 : bits .and .u32 ((word f1 k : Nat) : Int) ((word f2 k : Nat) : Int) = ((word (fun i => f1 i && f2 i) k : Nat) : Int) := by
        rw [u32_and_nat _ _ (word_lt _ _) (word_lt _ _), word_and]
      clear hp hcd q3 q4 q5
      go_wp2
      go_region
      go_wp2
      go_roundw
      case rel => exact ⟨k + 1, by omega, by go_num, (Hp.out.step hlt (by rw [Hcd.out]; rfl)).drew⟩
      case measure => simp [intOf]; omega
    · have hke : k = n := by omega
      subst hke
      clear q3 q4 q5
      go_wp2
      go_end0
      exact ⟨rfl, hp.vec Hn.out Hd.out, by rw [Hn.out]; exact (Only.of_below HbW.out hgd).trans hp.only⟩

set_option maxHeartbeats 800000 in
theorem mOr_any (N gd od cd g1 o1 c1 g2 o2 c2 : Nat) (fd f1 f2 : Nat → Bool) (w : World) (h1 : 1 ≤ N) (h2 : N ≤ 300) (hd : Vec w gd od N fd) (hv1 : Vec w g1 o1 N f1) (hv2 : Vec w g2 o2 N f2)
    (ha1 : Aside2 g1 o1 gd od ((N + 31) / 32)) (ha2 : Aside2 g2 o2 gd od ((N + 31) / 32)) :
    Calls Try.prog 56 #[.agg #[.int .i32 N, .slice (some ⟨gd, od, none⟩) ((N + 31) / 32) cd], .agg #[.int .i32 N, .slice (some ⟨g1, o1, none⟩) ((N + 31) / 32) c1], .agg #[.int .i32 N, .slice (some ⟨g2, o2, none⟩) ((N + 31) / 32) c2]] w
      (Wrote w gd od N fun i => f1 i || f2 i) := by
  have Ha1 := hide ha1
  have Ha2 := hide ha2
  generalize hn : (N + 31) / 32 = n at *
  have Hn := hide hn
  have hn1 : 1 ≤ n := by omega
  have hn2 : n ≤ 10 := by omega
  have hn5 : ((n : Int) == 0) = false := by rw [beq_eq_false_iff_ne]; omega
  have hn6 : (1 : Int) ≤ (n : Int) := by omega
  have s1 : IntKind.i64.wrap ((n : Int) - 1) = (n : Int) - 1 := IntWalk.i64_in _ (by omega)
  have s2 : ((n : Int) - 1).toNat = n - 1 := by omega
  have hn4 : (n : Int) - 1 < (n : Int) := by omega
  have hgd := hd.lt
  clear hn ha1 ha2
  go_enter Try.func56, Try.ntmps56
  go_wp2
  generalize hW : ((w.alloc (.cells #[.int .i32 N, .slice (some ⟨gd, od, none⟩) n cd] 60)).alloc (.cells #[.int .i32 N, .slice (some ⟨g1, o1, none⟩) n c1] 60)).alloc (.cells #[.int .i32 N, .slice (some ⟨g2, o2, none⟩) n c2] 60) = W
  have q3 : W.cell? ⟨w.heap.size, 1, none⟩ = some (.slice (some ⟨gd, od, none⟩) n cd) := by rw [← hW]; clear hW; go_simp
  have q4 : W.cell? ⟨w.heap.size + 1, 1, none⟩ = some (.slice (some ⟨g1, o1, none⟩) n c1) := by rw [← hW]; clear hW; go_simp
  have q5 : W.cell? ⟨w.heap.size + 1 + 1, 1, none⟩ = some (.slice (some ⟨g2, o2, none⟩) n c2) := by rw [← hW]; clear hW; go_simp
  have hbW : Below w.heap.size w W := by rw [← hW]; exact then_alloc (then_alloc (then_alloc (Below.refl _ _) _) _) _
  clear hW
  have Hd := hide (hd.keep hbW)
  have Hv1 := hide (hv1.keep hbW)
  have Hv2 := hide (hv2.keep hbW)
  have HbW := hide hbW
  clear hd hv1 hv2 hbW
  have hcd := Hd.out.cell (n - 1) (by have := Hn.out; omega)
  have hc2 := Hv2.out.cell (n - 1) (by have := Hn.out; omega)
  go_quiet (fail)
  clear s1 s2 hcd hc2 hn4
  go_wp2
  go_loopw [31] (fun i wr => ∃ k : Nat, k ≤ n ∧ i = .int .i64 k ∧ Part W wr gd od n k (fun i => f1 i || f2 i)) (fun i _ => n - (intOf i).toNat)
  case atStart => exact ⟨0, Nat.zero_le _, rfl, (Part.start W gd od n _).drewN _⟩
  case round =>
    obtain ⟨k, hk, rfl, hp⟩ := hrel
    by_cases hlt : k < n
    · have k3 : wr.cell? ⟨w.heap.size, 1, none⟩ = some (.slice (some ⟨gd, od, none⟩) n cd) := (hp.only.cell_far (p := ⟨w.heap.size, 1, none⟩) (lt_cell q3) (by show w.heap.size ≠ gd; omega)).trans q3
      have k5 : wr.cell? ⟨w.heap.size + 1 + 1, 1, none⟩ = some (.slice (some ⟨g2, o2, none⟩) n c2) := (hp.only.cell_far (p := ⟨w.heap.size + 1 + 1, 1, none⟩) (lt_cell q5) (by show w.heap.size + 1 + 1 ≠ gd; omega)).trans q5
      have r1 := hp.read Hv1.out Hn.out Ha1.out hlt
      have r2 := hp.read Hv2.out Hn.out Ha2.out hlt
      have hcd := Hd.out.cell k (by have := Hn.out; omega)
      have rd : ∃ v, wr.cell? ⟨gd, od + k, none⟩ = some v := ⟨_, (hp.rest k (Nat.le_refl _)).trans hcd⟩
      obtain ⟨vd, rd⟩ := rd
      have fd1 := (hp.only.free (od + k)).trans (Hd.out.free k (by have := Hn.out; omega))
      have Hp := hide hp
      have Hcd := hide hcd
      have i0 : (0 : Int) ≤ (k : Int) := by omega
      have i1 : (k : Int) < (n : Int) := by omega
      have e1 : bits .or .u32 ((word f1 k : Nat) : Int) ((word f2 k : Nat) : Int) = ((word (fun i => f1 i || f2 i) k : Nat) : Int) := by
        rw [u32_or_nat _ _ (word_lt _ _) (word_lt _ _), word_or]
      clear hp hcd q3 q4 q5
      go_wp2
      go_region
      go_wp2
      go_roundw
      case rel => exact ⟨k + 1, by omega, by go_num, (Hp.out.step hlt (by rw [Hcd.out]; rfl)).drew⟩
      case measure => simp [intOf]; omega
    · have hke : k = n := by omega
      subst hke
      clear q3 q4 q5
      go_wp2
      go_end0
      exact ⟨rfl, hp.vec Hn.out Hd.out, by rw [Hn.out]; exact (Only.of_below HbW.out hgd).trans hp.only⟩

set_option maxHeartbeats 800000 in
theorem mAndNot_any (N gd od cd g1 o1 c1 g2 o2 c2 : Nat) (fd f1 f2 : Nat → Bool) (w : World) (h1 : 1 ≤ N) (h2 : N ≤ 300) (hd : Vec w gd od N fd) (hv1 : Vec w g1 o1 N f1) (hv2 : Vec w g2 o2 N f2)
    (ha1 : Aside2 g1 o1 gd od ((N + 31) / 32)) (ha2 : Aside2 g2 o2 gd od ((N + 31) / 32)) :
    Calls Try.prog 55 #[.agg #[.int .i32 N, .slice (some ⟨gd, od, none⟩) ((N + 31) / 32) cd], .agg #[.int .i32 N, .slice (some ⟨g1, o1, none⟩) ((N + 31) / 32) c1], .agg #[.int .i32 N, .slice (some ⟨g2, o2, none⟩) ((N + 31) / 32) c2]] w
      (Wrote w gd od N fun i => f1 i && !f2 i) := by
  have Ha1 := hide ha1
  have Ha2 := hide ha2
  generalize hn : (N + 31) / 32 = n at *
  have Hn := hide hn
  have hn1 : 1 ≤ n := by omega
  have hn2 : n ≤ 10 := by omega
  have hn5 : ((n : Int) == 0) = false := by rw [beq_eq_false_iff_ne]; omega
  have hn6 : (1 : Int) ≤ (n : Int) := by omega
  have s1 : IntKind.i64.wrap ((n : Int) - 1) = (n : Int) - 1 := IntWalk.i64_in _ (by omega)
  have s2 : ((n : Int) - 1).toNat = n - 1 := by omega
  have hn4 : (n : Int) - 1 < (n : Int) := by omega
  have hgd := hd.lt
  clear hn ha1 ha2
  go_enter Try.func55, Try.ntmps55
  go_wp2
  generalize hW : ((w.alloc (.cells #[.int .i32 N, .slice (some ⟨gd, od, none⟩) n cd] 60)).alloc (.cells #[.int .i32 N, .slice (some ⟨g1, o1, none⟩) n c1] 60)).alloc (.cells #[.int .i32 N, .slice (some ⟨g2, o2, none⟩) n c2] 60) = W
  have q3 : W.cell? ⟨w.heap.size, 1, none⟩ = some (.slice (some ⟨gd, od, none⟩) n cd) := by rw [← hW]; clear hW; go_simp
  have q4 : W.cell? ⟨w.heap.size + 1, 1, none⟩ = some (.slice (some ⟨g1, o1, none⟩) n c1) := by rw [← hW]; clear hW; go_simp
  have q5 : W.cell? ⟨w.heap.size + 1 + 1, 1, none⟩ = some (.slice (some ⟨g2, o2, none⟩) n c2) := by rw [← hW]; clear hW; go_simp
  have hbW : Below w.heap.size w W := by rw [← hW]; exact then_alloc (then_alloc (then_alloc (Below.refl _ _) _) _) _
  clear hW
  have Hd := hide (hd.keep hbW)
  have Hv1 := hide (hv1.keep hbW)
  have Hv2 := hide (hv2.keep hbW)
  have HbW := hide hbW
  clear hd hv1 hv2 hbW
  have hcd := Hd.out.cell (n - 1) (by have := Hn.out; omega)
  have hc2 := Hv2.out.cell (n - 1) (by have := Hn.out; omega)
  go_quiet (fail)
  clear s1 s2 hcd hc2 hn4
  go_wp2
  go_loopw [31] (fun i wr => ∃ k : Nat, k ≤ n ∧ i = .int .i64 k ∧ Part W wr gd od n k (fun i => f1 i && !f2 i)) (fun i _ => n - (intOf i).toNat)
  case atStart => exact ⟨0, Nat.zero_le _, rfl, (Part.start W gd od n _).drewN _⟩
  case round =>
    obtain ⟨k, hk, rfl, hp⟩ := hrel
    by_cases hlt : k < n
    · have k3 : wr.cell? ⟨w.heap.size, 1, none⟩ = some (.slice (some ⟨gd, od, none⟩) n cd) := (hp.only.cell_far (p := ⟨w.heap.size, 1, none⟩) (lt_cell q3) (by show w.heap.size ≠ gd; omega)).trans q3
      have k5 : wr.cell? ⟨w.heap.size + 1 + 1, 1, none⟩ = some (.slice (some ⟨g2, o2, none⟩) n c2) := (hp.only.cell_far (p := ⟨w.heap.size + 1 + 1, 1, none⟩) (lt_cell q5) (by show w.heap.size + 1 + 1 ≠ gd; omega)).trans q5
      have r1 := hp.read Hv1.out Hn.out Ha1.out hlt
      have r2 := hp.read Hv2.out Hn.out Ha2.out hlt
      have hcd := Hd.out.cell k (by have := Hn.out; omega)
      have rd : ∃ v, wr.cell? ⟨gd, od + k, none⟩ = some v := ⟨_, (hp.rest k (Nat.le_refl _)).trans hcd⟩
      obtain ⟨vd, rd⟩ := rd
      have fd1 := (hp.only.free (od + k)).trans (Hd.out.free k (by have := Hn.out; omega))
      have Hp := hide hp
      have Hcd := hide hcd
      have i0 : (0 : Int) ≤ (k : Int) := by omega
      have i1 : (k : Int) < (n : Int) := by omega
      have e1 : bits .andNot .u32 ((word f1 k : Nat) : Int) ((word f2 k : Nat) : Int) = ((word (fun i => f1 i && !f2 i) k : Nat) : Int) := by
        rw [u32_andNot_nat _ _ (word_lt _ _) (word_lt _ _), word_andNot]
      clear hp hcd q3 q4 q5
      go_wp2
      go_region
      go_wp2
      go_roundw
      case rel => exact ⟨k + 1, by omega, by go_num, (Hp.out.step hlt (by rw [Hcd.out]; rfl)).drew⟩
      case measure => simp [intOf]; omega
    · have hke : k = n := by omega
      subst hke
      clear q3 q4 q5
      go_wp2
      go_end0
      exact ⟨rfl, hp.vec Hn.out Hd.out, by rw [Hn.out]; exact (Only.of_below HbW.out hgd).trans hp.only⟩
end Bv
end Go.Proofs.Ytjogehjgoemdpaa
