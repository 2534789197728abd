/- Contracts of NewBulk and of the bulk's Next. -/
import Derived.Test.YtjogehjgoemdpaaCore
namespace Go.Proofs.Ytjogehjgoemdpaa
open Go.RowKit
namespace Bv

theorem bulk_made (w : World) (N count t : Nat) (ht : t < count) : Vec (w.alloc (.cells (madeCells #[Value.int .u32 0] ((N + 31) / 32 * count)) 77)) w.heap.size (t * ((N + 31) / 32)) N (fun _ => false) := by
  have h := World.rowIs_made w (.int .u32 0) ((N + 31) / 32 * count) 77
  have hb : ∀ j, j < (N + 31) / 32 → t * ((N + 31) / 32) + j < (N + 31) / 32 * count := fun j hj => by
    have h1 : (t + 1) * ((N + 31) / 32) ≤ count * ((N + 31) / 32) := Nat.mul_le_mul_right _ ht
    rw [Nat.add_mul, Nat.one_mul] at h1
    rw [Nat.mul_comm _ count]
    omega
  refine ⟨by simp, fun j hj => ?_, fun j hj => ?_⟩
  · rw [h.cell (hb j hj), word_false]; rfl
  · exact h.frozen _

/-- What NewBulk leaves: so many vectors of N bits in one block, none set. -/
def BulkMade (w : World) (N count : Nat) (e : Ending) (w' : World) : Prop :=
  ∃ g, e = .returned (.agg #[.slice (some ⟨g, 0, none⟩) ((N + 31) / 32 * count) ((N + 31) / 32 * count), .int .i32 N, .int .i32 ((N + 31) / 32 : Nat)]) ∧ w.heap.size ≤ g ∧ (∀ t, t < count → Vec w' g (t * ((N + 31) / 32)) N fun _ => false) ∧ Below w.heap.size w w'

set_option maxHeartbeats 400000 in
theorem NewBulk_any (N count : Nat) (w : World) (h2 : N ≤ 300) (hc : count ≤ 6) :
    Calls Try.prog 60 #[.int .i32 N, .int .i32 count] w (BulkMade w N count) := by
  have hq : (N + 31) / 32 * count ≤ 10 * 6 := Nat.mul_le_mul (by omega) hc
  have e0 : (((N + 31) / 32 : Nat) : Int) * (count : Int) = (((N + 31) / 32 * count : Nat) : Int) := by simp
  have e1 : ((N : Int) + 32 - 1) / 32 = (((N + 31) / 32 : Nat) : Int) := by omega
  have e2 : ((N : Int) + 32 - 1) / 32 * (count : Int) = (((N + 31) / 32 * count : Nat) : Int) := by rw [e1, e0]
  have hw : IntKind.i64.wrap (((N : Int) + 32 - 1) / 32 * (count : Int)) = ((N : Int) + 32 - 1) / 32 * (count : Int) := IntWalk.i64_in _ (by rw [e2]; omega)
  have hmk : ∀ W : World, (Instr.makeSlice 58 (.int .i64 (((N : Int) + 32 - 1) / 32 * (count : Int))) (.int .i64 (((N : Int) + 32 - 1) / 32 * (count : Int)))).run Try.prog W =
      .ok (.slice (some ⟨W.heap.size, 0, none⟩) ((N + 31) / 32 * count) ((N + 31) / 32 * count)) (W.alloc (.cells (madeCells #[Value.int .u32 0] ((N + 31) / 32 * count)) 77)) := by
    intro W
    rw [e2]
    exact run_make_row' 58 77 (.int .u32 0) 4 Try.underlying58 info_u32 rfl .i64 .i64 ((N + 31) / 32 * count) (by omega) (by omega) W
  have E1 := hide e1
  clear e0 e1 e2
  go_enter Try.func60, Try.ntmps60
  go_wp2
  refine bodyPost_ret (v := .agg #[.slice (some ⟨w.heap.size + 1, 0, none⟩) ((N + 31) / 32 * count) ((N + 31) / 32 * count), .int .i32 N, .int .i32 (((N : Int) + 32 - 1) / 32)]) (by simp [results, Try.results60, go_sem]) rfl ?_
  refine ⟨w.heap.size + 1, by rw [E1.out], by omega, fun t ht => ?_, then_alloc (then_alloc (Below.refl _ _) _) _⟩
  have h := bulk_made (w.alloc (.cells #[.slice (some ⟨w.heap.size + 1, 0, none⟩) ((N + 31) / 32 * count) ((N + 31) / 32 * count), .int .i32 N, .int .i32 (((N : Int) + 32 - 1) / 32)] 72)) N count t ht
  simpa using h

theorem only_new {w : World} {p : Nat} {u : Value} {o o' : Obj} (hl : p < w.heap.size) : Only w (((w.setCell ⟨p, 0, none⟩ u).alloc o).alloc o').drew.drew p 0 1 :=
  (Only.setCell w p 0 1 0 u ⟨Nat.le_refl _, by omega⟩).trans (Only.of_below (then_alloc (then_alloc (Below.refl _ _) _) _).drew.drew (by simpa using hl))
/-- What the bulk's Next gives: the first words that are left, as a vector; the bulk's words are those behind. -/
def BulkGives (w : World) (N n p g off len cap : Nat) (e : Ending) (w' : World) : Prop :=
  e = .returned (.agg #[.int .i32 N, .slice (some ⟨g, off, none⟩) n cap]) ∧
    (∃ off', w'.cell? ⟨p, 0, none⟩ = some (.slice (some ⟨g, off', none⟩) (len - n) (cap - n)) ∧ (n < cap → off' = off + n)) ∧ w'.frozen? ⟨p, 0, none⟩ = false ∧ Only w w' p 0 1

set_option maxHeartbeats 800000 in
theorem BulkNext_any (N n p g off len cap : Nat) (w : World) (hn : n ≤ len) (hc : len ≤ cap) (c0 : w.cell? ⟨p, 0, none⟩ = some (.slice (some ⟨g, off, none⟩) len cap)) (c1 : w.cell? ⟨p, 1, none⟩ = some (.int .i32 N)) (c2 : w.cell? ⟨p, 2, none⟩ = some (.int .i32 n))
    (f0 : w.frozen? ⟨p, 0, none⟩ = false) :
    Calls Try.prog 61 #[.pointer (some ⟨p, 0, none⟩)] w (BulkGives w N n p g off len cap) := by
  have hl := lt_cell c0
  go_enter Try.func61, Try.ntmps61
  go_wp2
  go_region
  go_wp2
  go_region
  go_wp2
  · subst h
    refine bodyPost_ret (v := .agg #[.int .i32 N, .slice (some ⟨g, off, none⟩) cap cap]) (by simp [results, Try.results61, go_sem]) rfl ?_
    refine ⟨rfl, ⟨off, by rw [Nat.sub_self]; go_simp, fun h => by omega⟩, by go_simp, ?_⟩
    exact only_new hl
  · refine bodyPost_ret (v := .agg #[.int .i32 N, .slice (some ⟨g, off, none⟩) n cap]) (by simp [results, Try.results61, go_sem]) rfl ?_
    refine ⟨rfl, ⟨off + n, by go_simp, fun _ => rfl⟩, by go_simp, ?_⟩
    exact only_new hl
end Bv
end Go.Proofs.Ytjogehjgoemdpaa
