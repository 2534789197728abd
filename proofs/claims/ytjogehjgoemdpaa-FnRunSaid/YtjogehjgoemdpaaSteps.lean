/- Contract of the reference's Steps. -/
import Derived.Test.YtjogehjgoemdpaaStepsP
import Derived.Test.YtjogehjgoemdpaaCore
import Derived.BigQuiet
import Derived.Deep.QuietTactic
namespace Go.Proofs.Ytjogehjgoemdpaa
open Go.RowKit
namespace Bv

theorem add_next (ad : Addr) (m j n : Nat) (hn : n = m + (j + 1)) : ad.add n = ⟨(ad.add m).block, (ad.add m).off + (j + 1), none⟩ := by
  subst hn
  unfold Addr.add
  rw [if_neg (by omega)]
  by_cases h : m = 0
  · subst h; simp
  · rw [if_neg h]; simp [Nat.add_assoc]
/-- The five cells of step k. -/
theorem step_cells {w : World} {B : Nat} {A : Option Addr} {l : List SI} (hr : Row w B A (flat l)) {k : Nat} (hk : k < l.length) :
    ∃ ad, A = some ad ∧ ad.block < B ∧ w.cell? (ad.add (k * 5)) = some (.int .i64 l[k].op) ∧ w.cell? ⟨(ad.add (k * 5)).block, (ad.add (k * 5)).off + 1, none⟩ = some (.int .i64 l[k].to) ∧
      w.cell? ⟨(ad.add (k * 5)).block, (ad.add (k * 5)).off + 2, none⟩ = some (.int .i64 l[k].a) ∧ w.cell? ⟨(ad.add (k * 5)).block, (ad.add (k * 5)).off + 3, none⟩ = some (.int .i64 l[k].b) ∧
      w.cell? ⟨(ad.add (k * 5)).block, (ad.add (k * 5)).off + 4, none⟩ = some (.int .i64 l[k].bit) := by
  have g0 := flat_get l k 0 hk (by omega)
  have g1 := flat_get l k 1 hk (by omega)
  have g2 := flat_get l k 2 hk (by omega)
  have g3 := flat_get l k 3 hk (by omega)
  have g4 := flat_get l k 4 hk (by omega)
  simp only [SI.nums, List.getElem?_cons_zero, List.getElem?_cons_succ, Option.map_some] at g0 g1 g2 g3 g4
  obtain ⟨ad, rfl, hb, h0⟩ := hr _ _ g0
  obtain ⟨ad1, e1, _, h1⟩ := hr _ _ g1
  obtain ⟨ad2, e2, _, h2⟩ := hr _ _ g2
  obtain ⟨ad3, e3, _, h3⟩ := hr _ _ g3
  obtain ⟨ad4, e4, _, h4⟩ := hr _ _ g4
  obtain rfl := Option.some.inj e1
  obtain rfl := Option.some.inj e2
  obtain rfl := Option.some.inj e3
  obtain rfl := Option.some.inj e4
  rw [Nat.mul_comm 5 k] at h0
  rw [add_next ad (k * 5) 0 _ (by omega)] at h1
  rw [add_next ad (k * 5) 1 _ (by omega)] at h2
  rw [add_next ad (k * 5) 2 _ (by omega)] at h3
  rw [add_next ad (k * 5) 3 _ (by omega)] at h4
  exact ⟨ad, rfl, hb, h0, h1, h2, h3, h4⟩

theorem okB_iff {n count : Int} {s : SI} : okB n count s = true ↔ 0 ≤ s.op ∧ s.op ≤ 7 ∧ 0 ≤ s.to ∧ 0 ≤ s.a ∧ 0 ≤ s.b ∧ s.to < count ∧ s.a < count ∧ s.b < count ∧ 0 ≤ s.bit ∧ s.bit < n := by
  unfold okB
  simp only [Bool.not_eq_true', Bool.or_eq_false_iff, decide_eq_false_iff_not]
  omega
theorem stepsB_no {n count : Int} {l : List SI} {x : SI} (hx : x ∈ l) (h : ¬ (0 ≤ x.op ∧ x.op ≤ 7 ∧ 0 ≤ x.to ∧ 0 ≤ x.a ∧ 0 ≤ x.b ∧ x.to < count ∧ x.a < count ∧ x.b < count ∧ 0 ≤ x.bit ∧ x.bit < n)) : stepsB n count l = false := by
  have h1 : l.all (okB n count) = false := by
    rw [List.all_eq_false]
    exact ⟨x, hx, fun h2 => h (okB_iff.1 h2)⟩
  unfold stepsB
  rw [h1]
  rfl
set_option maxHeartbeats 1600000 in
theorem sSteps_any (n count : Int) (A : Option Addr) (l : List SI) (c : Nat) (w : World) (B : Nat) (hB : B ≤ w.heap.size) (hr : Row w B A (flat l)) (hl : l.length ≤ 2147483647) :
    Calls Try.prog 42 #[.int .i64 n, .int .i64 count, .slice A l.length c] w fun e w' => e = .returned (.bool (stepsB n count l)) ∧ Below w.heap.size w w' := by
  go_enter Try.func42, Try.ntmps42
  go_wp2
  go_loopw [11] (fun i wr => ∃ k : Nat, k ≤ l.length ∧ i = .int .i64 k ∧ (∀ x ∈ l.take k, okB n count x = true) ∧ Below w.heap.size w wr) (fun i _ => l.length - (intOf i).toNat)
  case atStart => exact ⟨0, Nat.zero_le _, rfl, by simp, Below.refl _ _⟩
  case round =>
    obtain ⟨k, hk, rfl, hok, hbl⟩ := hrel
    have Hok := hide hok
    clear hok
    by_cases hlt : k < l.length
    · obtain ⟨ad, rfl, hadB, s0, s1, s2, s3, s4⟩ := step_cells (hr.below (hbl.mono hB)) hlt
      obtain ⟨x, hx⟩ : ∃ x, x = l[k] := ⟨_, rfl⟩
      rw [← hx] at s0 s1 s2 s3 s4
      have i0 : (0 : Int) ≤ (k : Int) := by omega
      have i1 : (k : Int) < (l.length : Int) := by omega
      have Hx := hide hx
      have Hto : Hid (l.take (k + 1) = l.take k ++ [x]) := by rw [hx, List.take_succ_eq_append_getElem hlt]; rfl
      have Hmem : Hid (x ∈ l) := by rw [hx]; exact List.getElem_mem hlt
      clear hx
      go_wp2
      case roundEnd =>
        refine ⟨⟨k + 1, by omega, by go_num, ?_, then_alloc hbl _⟩, by simp [intOf]; omega⟩
        rw [Hto.out]
        intro y hy
        rcases List.mem_append.1 hy with hy | hy
        · exact Hok.out y hy
        · rw [List.mem_singleton.1 hy]
          exact okB_iff.2 (by omega)
      all_goals
        go_ret
        refine ⟨?_, then_alloc hbl _⟩
        rw [stepsB_no Hmem.out (by omega)]
        rfl
    · have hke : k = l.length := by omega
      subst hke
      have hall : stepsB n count l = (decide (1 ≤ n) && decide (n ≤ 300) && decide (1 ≤ count) && decide (count ≤ 6) && decide (l.length ≤ 40)) := by
        have h := Hok.out
        rw [List.take_length] at h
        unfold stepsB
        rw [List.all_eq_true.2 h]
        rfl
      have Hall := hide hall
      clear hall
      go_wp2
      all_goals
        go_ret
        refine ⟨?_, by first | exact hbl | exact hbl.drew⟩
        rw [Hall.out]
        refine congrArg (fun b => Ending.returned (.bool b)) ?_
        rw [Bool.eq_iff_iff]
        simp only [Bool.and_eq_true, decide_eq_true_eq, Bool.false_eq_true, false_iff]
        omega
end Bv
end Go.Proofs.Ytjogehjgoemdpaa
