/- Contracts of Not, Clear, Copy. -/
import Derived.Test.YtjogehjgoemdpaaVec2
import Derived.Laws.IdiomCopy
import Derived.Lib.SliceRun
namespace Go.Proofs.Ytjogehjgoemdpaa
open Go.RowKit
namespace Bv

theorem pow_sub_int {r : Nat} (hr : r < 32) : (((2 : Int) ^ r - 1) % 4294967296) = ((2 ^ r - 1 : Nat) : Int) := by
  have h := pow_lt32 hr
  have h0 : 0 < 2 ^ r := Nat.two_pow_pos r
  have e : ((2 ^ r : Nat) : Int) = (2 : Int) ^ r := by simp
  rw [← e]
  omega

set_option maxHeartbeats 800000 in
theorem mNot_any (N g off cap : Nat) (f : Nat → Bool) (w : World) (h1 : 1 ≤ N) (h2 : N ≤ 300) (hv : Vec w g off N f) :
    Calls Try.prog 58 #[.agg #[.int .i32 N, .slice (some ⟨g, off, none⟩) ((N + 31) / 32) cap]] w (Wrote w g off N fun i => decide (i < N) && !f i) := by
  generalize hn : (N + 31) / 32 = n at *
  have Hn := hide hn
  have hn1 : 1 ≤ n := by omega
  have hn2 : n ≤ 10 := by omega
  have hg := hv.lt
  clear hn
  go_enter Try.func58, Try.ntmps58
  go_wp2
  generalize hW : w.alloc (.cells #[.int .i32 N, .slice (some ⟨g, off, none⟩) n cap] 60) = W
  have q0 : W.cell? ⟨w.heap.size, 0, none⟩ = some (.int .i32 N) := by rw [← hW]; clear hW; go_simp
  have q1 : W.cell? ⟨w.heap.size, 1, none⟩ = some (.slice (some ⟨g, off, none⟩) n cap) := by rw [← hW]; clear hW; go_simp
  have hbW : Below w.heap.size w W := by rw [← hW]; exact then_alloc (Below.refl _ _) _
  clear hW
  have Hv := hide (hv.keep hbW)
  have HbW := hide hbW
  clear hv hbW
  go_loopw [7] (fun i wr => ∃ k : Nat, k ≤ n ∧ i = .int .i64 k ∧ Part W wr g off n k (fun i => !f i)) (fun i _ => n - (intOf i).toNat)
  case atStart => exact ⟨0, Nat.zero_le _, rfl, Part.start W g off n _⟩
  case round =>
    obtain ⟨k, hk, rfl, hp⟩ := hrel
    have k1 : wr.cell? ⟨w.heap.size, 1, none⟩ = some (.slice (some ⟨g, off, none⟩) n cap) := (hp.only.cell_far (p := ⟨w.heap.size, 1, none⟩) (lt_cell q1) (by show w.heap.size ≠ g; omega)).trans q1
    have k0 : wr.cell? ⟨w.heap.size, 0, none⟩ = some (.int .i32 N) := (hp.only.cell_far (p := ⟨w.heap.size, 0, none⟩) (lt_cell q1) (by show w.heap.size ≠ g; omega)).trans q0
    by_cases hlt : k < n
    · have r1 := hp.read Hv.out Hn.out (Or.inl ⟨rfl, rfl⟩) hlt
      have hcd := Hv.out.cell k (by have := Hn.out; omega)
      have fd1 := (hp.only.free (off + k)).trans (Hv.out.free k (by have := Hn.out; omega))
      have Hp := hide hp
      have Hcd := hide hcd
      have E1 : Hid (bits .xor .u32 (if IntKind.u32.signed = true then -1 else IntKind.u32.max) ((word f k : Nat) : Int) = ((word (fun i => !f i) k : Nat) : Int)) := by
        have h := u32_xor_nat 4294967295 (word f k) (by decide) (word_lt _ _)
        rw [word_not] at h
        exact h
      clear hp hcd q0 q1 k0
      go_wp2
      go_roundw
      case rel => exact ⟨k + 1, by omega, by go_num, by rw [E1.out]; exact Hp.out.step hlt (by rw [Hcd.out]; rfl)⟩
      case measure => simp [intOf]; omega
    · have hke : k = n := by omega
      subst hke
      clear q0 q1
      have hvn := hp.vec Hn.out Hv.out
      by_cases hm : N % 32 = 0
      · have e0 : (((N : Int) % 32) != 0) = false := by rw [bne_eq_false_iff_eq]; omega
        have Hp := hide hp
        have Hm := hide hm
        clear hp hm hvn
        go_wp2
        go_end0
        refine ⟨rfl, (Hp.out.vec Hn.out Hv.out).congr fun i hi => ?_, by rw [Hn.out]; exact (Only.of_below HbW.out hg).trans Hp.out.only⟩
        have hm := Hm.out
        have : i < N := by omega
        simp [this]
      · have e0 : (((N : Int) % 32) != 0) = true := by rw [bne_iff_ne]; omega
        have hcd := hvn.cell (k - 1) (by have := Hn.out; omega)
        have hff := hvn.free (k - 1) (by have := Hn.out; omega)
        have s1 : IntKind.i64.wrap ((k : Int) - 1) = (k : Int) - 1 := IntWalk.i64_in _ (by omega)
        have s2 : ((k : Int) - 1).toNat = k - 1 := by omega
        have hn4 : (k : Int) - 1 < (k : Int) := by omega
        have hn6 : (1 : Int) ≤ (k : Int) := by omega
        have Hp := hide hp
        have Hm := hide hm
        have Hvn := hide hvn
        clear hp hm hvn
        go_wp2
        go_region
        go_wp2
        go_end0
        have hm := Hm.out
        have hnk := Hn.out
        have e1 : (bits .and .u32 ((word (fun i => !f i) (k - 1) : Nat) : Int) ((2 ^ (N % 32) - 1) % 4294967296) : Int) = ((word (fun i => decide (i < N) && !f i) (k - 1) : Nat) : Int) := by
          rw [pow_sub_int (Nat.mod_lt N (by decide)), u32_and_nat _ _ (word_lt _ _) (Nat.lt_of_le_of_lt (Nat.sub_le _ _) (pow_lt32 (Nat.mod_lt N (by decide)))), word_mask _ _ _ (Nat.mod_lt N (by decide))]
          have e2 : 32 * (k - 1) + N % 32 = N := by omega
          rw [e2]
          refine congrArg (fun z : Nat => (z : Int)) (word_congr fun i _ => ?_)
          exact Bool.and_comm _ _
        have h3 := Hvn.out.put (k - 1) (by omega) (fun i => decide (i < N) && !f i) fun j hj hne => word_congr fun i hi => by
          have : 32 * j + i < N := by omega
          simp [this]
        rw [e1]
        refine ⟨rfl, h3.drew, ?_⟩
        rw [hnk]
        have h4 := ((Only.of_below HbW.out hg).trans Hp.out.only).trans (Only.setCell wr g off k (off + (k - 1)) (.int .u32 (word (fun i => decide (i < N) && !f i) (k - 1) : Nat)) (by omega))
        exact ⟨⟨h4.grown.os, h4.grown.tape, h4.grown.output, h4.grown.size, h4.grown.block⟩, h4.cell, h4.free⟩

theorem grown_setCells (g : Nat) : ∀ (vs : List Value) (o : Nat) (w : World), w.grownBy (w.setCells g o vs) (some g)
  | [], _, w => World.grownBy.refl w _
  | v :: r, o, w => grown_trans (Only.setCell w g o 1 o v (by omega)).grown (grown_setCells g r (o + 1) _)
theorem Only.setCells (w : World) (g off n : Nat) (vs : List Value) (hl : vs.length = n) : Only w (w.setCells g off vs) g off n :=
  ⟨grown_setCells g vs off w, fun k hk => World.cell?_setCells_out g vs off w ⟨g, k, none⟩ (fun _ _ => by rw [hl]; exact hk), fun k => World.frozen?_setCells g vs off w _⟩
/-- The words of f, as cells. -/
def wcells (n : Nat) (f : Nat → Bool) : List Value := (List.range n).map fun j => Value.int .u32 (word f j : Nat)
theorem wcells_length (n : Nat) (f : Nat → Bool) : (wcells n f).length = n := by simp [wcells]
theorem wcells_one {n : Nat} {f : Nat → Bool} : ∀ v ∈ wcells n f, v.oneCell' = true := by
  intro v hv
  obtain ⟨j, _, rfl⟩ := List.mem_map.1 hv
  rfl
theorem vec_setCells {w : World} {g off N n : Nat} {fd f : Nat → Bool} (hv : Vec w g off N fd) (hn : (N + 31) / 32 = n) : Vec (w.setCells g off (wcells n f)) g off N f := by
  have ho := Only.setCells w g off n (wcells n f) (wcells_length n f)
  refine ⟨Nat.lt_of_lt_of_le hv.lt ho.grown.size, fun j hj => ?_, fun j hj => (ho.free _).trans (hv.free j hj)⟩
  have h := World.cell?_setCells_in g (wcells n f) off w (fun i hi => by rw [hv.cell i (by rw [wcells_length] at hi; omega)]; rfl) j (by rw [wcells_length]; omega)
  rw [h]
  simp [wcells]

theorem zero_u32 (w : World) : (zeroValue 77).run Try.prog w = .ok (.int .u32 0) w := by kernel_rfl
theorem size_u32 : (Try.prog.info? 77).map (·.size) = some 1 := by kernel_rfl

set_option maxHeartbeats 400000 in
theorem mClear_any (N g off cap : Nat) (f : Nat → Bool) (w : World) (h1 : 1 ≤ N) (h2 : N ≤ 300) (hv : Vec w g off N f) :
    Calls Try.prog 57 #[.agg #[.int .i32 N, .slice (some ⟨g, off, none⟩) ((N + 31) / 32) cap]] w (Wrote w g off N fun _ => false) := by
  generalize hn : (N + 31) / 32 = n at *
  have Hn := hide hn
  have hg := hv.lt
  have hrun : ∀ W, Below w.heap.size w W → ∀ ty, (Builtin.clear_ #[58] ty #[.slice (some ⟨g, off, none⟩) n cap]).run Try.prog W = .ok (.tuple #[]) (W.setCells g off (wcells n fun _ => false)) := by
    intro W hb ty
    have hvW := hv.keep hb
    have h := Lib.run_clear_slice (P := Try.prog) W 58 77 ty (.int .u32 0) Try.underlying58 zero_u32 rfl rfl g off n cap (by omega)
      (fun j hj => by rw [hvW.cell j (by omega)]; rfl) (fun j hj => hvW.free j (by omega))
    rw [h]
    congr 2
    apply List.ext_getElem
    · simp [wcells]
    · intro i h3 h4
      simp [wcells, word_false]
  have hr := hrun _ (then_alloc (Below.refl _ _) (.cells #[.int .i32 N, .slice (some ⟨g, off, none⟩) n cap] 60))
  clear hrun hn
  have Hv := hide hv
  clear hv
  go_enter Try.func57, Try.ntmps57
  go_wp2
  go_end0
  have h5 := Hv.out.keep (then_alloc (Below.refl _ _) (.cells #[.int .i32 N, .slice (some ⟨g, off, none⟩) n cap] 60))
  refine ⟨rfl, vec_setCells h5 Hn.out, ?_⟩
  rw [Hn.out]
  exact (Only.of_below (then_alloc (Below.refl _ _) _) hg).trans (Only.setCells _ g off n _ (wcells_length _ _))

set_option maxHeartbeats 400000 in
theorem mCopy_any (N g off cap g' off' cap' : Nat) (fd f : Nat → Bool) (w : World) (hd : Vec w g off N fd) (hv : Vec w g' off' N f) :
    Calls Try.prog 52 #[.agg #[.int .i32 N, .slice (some ⟨g, off, none⟩) ((N + 31) / 32) cap], .agg #[.int .i32 N, .slice (some ⟨g', off', none⟩) ((N + 31) / 32) cap']] w (Wrote w g off N f) := by
  generalize hn : (N + 31) / 32 = n at *
  have Hn := hide hn
  have hg := hd.lt
  have hrun : ∀ W, Below w.heap.size w W → ∀ ty, (Builtin.copy_ #[58, 58] ty #[.slice (some ⟨g, off, none⟩) n cap, .slice (some ⟨g', off', none⟩) n cap']).run Try.prog W = .ok (goInt n) (W.setCells g off (wcells n f)) := by
    intro W hb ty
    have hdW := hd.keep hb
    have hvW := hv.keep hb
    have h := run_copy_cells (P := Try.prog) W 58 58 ty 77 g off n cap ⟨g', off', none⟩ n cap' (wcells n f) Try.underlying58 size_u32 (by rw [wcells_length]; simp)
      (fun j v hj => by
        obtain ⟨hj2, rfl⟩ := List.getElem?_eq_some_iff.1 hj
        rw [wcells_length] at hj2
        have e : (⟨g', off', none⟩ : Addr).add j = ⟨g', off' + j, none⟩ := by unfold Addr.add; split <;> simp_all
        rw [e, hvW.cell j (by omega)]
        simp [wcells])
      (fun j hj => by rw [hdW.cell j (by rw [wcells_length] at hj; omega)]; rfl) (fun j hj => hdW.free j (by rw [wcells_length] at hj; omega)) wcells_one
    rw [wcells_length] at h
    exact h
  have hr := hrun _ (then_alloc (then_alloc (Below.refl _ _) (.cells #[.int .i32 N, .slice (some ⟨g, off, none⟩) n cap] 60)) (.cells #[.int .i32 N, .slice (some ⟨g', off', none⟩) n cap'] 60))
  clear hrun hn hv
  have Hd := hide hd
  clear hd
  go_enter Try.func52, Try.ntmps52
  go_wp2
  go_end0
  have h5 := Hd.out.keep (then_alloc (then_alloc (Below.refl _ _) (.cells #[.int .i32 N, .slice (some ⟨g, off, none⟩) n cap] 60)) (.cells #[.int .i32 N, .slice (some ⟨g', off', none⟩) n cap'] 60))
  refine ⟨rfl, vec_setCells h5 Hn.out, ?_⟩
  rw [Hn.out]
  exact (Only.of_below (then_alloc (then_alloc (Below.refl _ _) _) _) hg).trans (Only.setCells _ g off n _ (wcells_length _ _))
end Bv
end Go.Proofs.Ytjogehjgoemdpaa
