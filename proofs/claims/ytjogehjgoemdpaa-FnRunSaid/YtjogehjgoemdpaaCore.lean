/- Contracts of the functions that most laws go through: New, Set, Get, build. -/
import Derived.Test.YtjogehjgoemdpaaProg
import Derived.Test.YtjogehjgoemdpaaMem
import Derived.WalkKit
import Derived.WalkSpells
import Derived.WalkLawsBesides
import Derived.Deep.OwnRows
namespace Go.Proofs.Ytjogehjgoemdpaa
open Go.RowKit
namespace Bv

theorem info_u32 : (Try.prog.info? 77).map (fun i => (i.zero, i.size, i.bytes)) = some (some (.int .u32 0), 1, 4) := by kernel_rfl

theorem vec_made (w : World) (N : Nat) : Vec (w.alloc (.cells (madeCells #[Value.int .u32 0] ((N + 31) / 32)) 77)) w.heap.size 0 N (fun _ => false) := by
  have h := World.rowIs_made w (.int .u32 0) ((N + 31) / 32) 77
  refine ⟨by simp, fun j hj => ?_, fun j hj => ?_⟩
  · rw [Nat.zero_add, h.cell hj, word_false]; rfl
  · rw [Nat.zero_add]; exact h.frozen _

theorem pow_int {r : Nat} (hr : r < 32) : ((2 : Int) ^ r % 4294967296) = ((2 ^ r : Nat) : Int) := by
  have h := pow_lt32 hr
  have e : ((2 ^ r : Nat) : Int) = (2 : Int) ^ r := by simp
  rw [← e]
  exact Int.emod_eq_of_lt (Int.natCast_nonneg _) (Int.ofNat_lt.2 h)

theorem ret_bool {a b : Bool} (h : a = b) : Ending.returned (.bool a) = .returned (.bool b) := by rw [h]
theorem ret_int {k : IntKind} {a b : Int} (h : a = b) : Ending.returned (.int k a) = .returned (.int k b) := by rw [h]
theorem get_bool {x : Nat} {b : Bool} (h : x = 0 ↔ b = false) : (((x : Nat) : Int) != 0) = b := by
  cases b with
  | false => simp [h.2 rfl]
  | true =>
    have : x ≠ 0 := fun e => by have := h.1 e; cases this
    rw [bne_iff_ne]; omega

/-- What New leaves: a vector of N bits, none set, in a block of its own. -/
def Made (w : World) (N : Nat) (f : Nat → Bool) (e : Ending) (w' : World) : Prop :=
  ∃ g, e = .returned (.agg #[.int .i32 N, .slice (some ⟨g, 0, none⟩) ((N + 31) / 32) ((N + 31) / 32)]) ∧ w.heap.size ≤ g ∧ Vec w' g 0 N f ∧ Below w.heap.size w w'

set_option maxHeartbeats 400000 in
theorem New_any (N : Nat) (w : World) (h2 : N ≤ 300) :
    Calls Try.prog 53 #[.int .i32 N] w (Made w N fun _ => false) := by
  have hmk : ∀ W : World, (Instr.makeSlice 58 (.int .i32 (((N : Int) + 32 - 1) / 32)) (.int .i32 (((N : Int) + 32 - 1) / 32))).run Try.prog W =
      .ok (.slice (some ⟨W.heap.size, 0, none⟩) ((N + 31) / 32) ((N + 31) / 32)) (W.alloc (.cells (madeCells #[Value.int .u32 0] ((N + 31) / 32)) 77)) := by
    intro W
    have e : ((N : Int) + 32 - 1) / 32 = (((N + 31) / 32 : Nat) : Int) := by omega
    rw [e]
    exact run_make_row' 58 77 (.int .u32 0) 4 Try.underlying58 info_u32 rfl .i32 .i32 ((N + 31) / 32) (by omega) (by omega) W
  go_enter Try.func53, Try.ntmps53
  go_wp2
  refine bodyPost_ret (v := .agg #[.int .i32 N, .slice (some ⟨w.heap.size + 1, 0, none⟩) ((N + 31) / 32) ((N + 31) / 32)]) (by simp [results, Try.results53, go_sem]) rfl ?_
  refine ⟨w.heap.size + 1, rfl, by omega, ?_, ((Below.refl _ _).alloc (Nat.le_refl _) _).alloc (by simp) _⟩
  have h := vec_made (w.alloc (.cells #[Value.int .i32 N, .slice (some ⟨w.heap.size + 1, 0, none⟩) ((N + 31) / 32) ((N + 31) / 32)] 60)) N
  simpa using h

/-- A call that writes into one vector alone, and gives nothing back. -/
def Wrote (w : World) (g off N : Nat) (f : Nat → Bool) (e : Ending) (w' : World) : Prop :=
  e = .returned (.tuple #[]) ∧ Vec w' g off N f ∧ Only w w' g off ((N + 31) / 32)

set_option maxHeartbeats 400000 in
theorem mSet_nat (N i g off cap : Nat) (f : Nat → Bool) (w : World) (h1 : i < N) (h2 : N ≤ 300) (hv : Vec w g off N f) :
    Calls Try.prog 50 #[.agg #[.int .i32 N, .slice (some ⟨g, off, none⟩) ((N + 31) / 32) cap], .int .i32 i] w (Wrote w g off N (upd f i true)) := by
  have hg := hv.lt
  have hc := hv.cell (i / 32) (by omega)
  have hf := hv.free (i / 32) (by omega)
  go_enter Try.func50, Try.ntmps50
  go_wp2
  go_end0
  have e1 : (bits .or .u32 (word f (i / 32) : Nat) (2 ^ (i % 32) % 4294967296) : Int) = ((word (upd f i true) (i / 32) : Nat) : Int) := by
    rw [pow_int (Nat.mod_lt _ (by decide)), u32_or_nat _ _ (word_lt f _) (pow_lt32 (Nat.mod_lt _ (by decide))), word_upd_true]
  refine ⟨rfl, ?_, ?_⟩
  · rw [e1]
    exact (hv.put (i / 32) (by omega) (upd f i true) fun k _ hk => word_upd_other f i k true hk).alloc _
  · exact (Only.setCell w g off ((N + 31) / 32) (off + i / 32) _ (by omega)).trans (Only.of_below ((Below.refl _ _).alloc (Nat.le_refl _) _) (by simpa [World.setCell] using hg))

theorem mSet_any (N : Nat) (i : Int) (g off cap : Nat) (f : Nat → Bool) (w : World) (h0 : 0 ≤ i) (h1 : i < N) (h2 : N ≤ 300) (hv : Vec w g off N f) :
    Calls Try.prog 50 #[.agg #[.int .i32 N, .slice (some ⟨g, off, none⟩) ((N + 31) / 32) cap], .int .i32 i] w (Wrote w g off N (upd f i.toNat true)) := by
  obtain ⟨i, rfl⟩ := Int.eq_ofNat_of_zero_le h0
  exact mSet_nat N i g off cap f w (by omega) h2 hv

end Bv
end Go.Proofs.Ytjogehjgoemdpaa
