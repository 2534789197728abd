/- Contract of TrailingZeros32, and of the vector's Next. -/
import Derived.Test.YtjogehjgoemdpaaDoorCore
import Derived.Lib.TrailingZeros
import Derived.BigQuiet
import Derived.Deep.QuietTactic
namespace Go.Proofs.YtjogehjgoemdpaaDoor
open Go.RowKit
namespace Bv

/-- The table that TrailingZeros32 looks into holds what its text lays. -/
def Tab (w : World) : Prop := ∀ i, i < 32 → w.cell? ⟨0, i, none⟩ = some (.int .u8 ((Lib.deBruijn32tab.getD i 0 : Nat) : Int))
theorem Tab.keep {w w' : World} (h : Tab w) (hb : Below w.heap.size w w') : Tab w' := fun i hi => cell_keep hb (h i hi)

theorem tz_key (x a : Nat) (hx : x < 4294967296) (hlow : x &&& (4294967296 - x) = a) (hx0 : x ≠ 0) :
    bits BinOp.and IntKind.u32 (x : Int) (-(x : Int) % 4294967296) * 125613361 % 4294967296 / 134217728 = ((a * 125613361 % 4294967296 / 134217728 : Nat) : Int) := by
  have e1 : -(x : Int) % 4294967296 = ((4294967296 - x : Nat) : Int) := by omega
  rw [e1, u32_and_nat x _ hx (by omega), hlow]
  omega
set_option maxHeartbeats 400000 in
theorem tz_core (x k idx : Nat) (w : World) (hx0 : ((x : Int) == 0) = false)
    (key : bits BinOp.and IntKind.u32 (x : Int) (-(x : Int) % 4294967296) * 125613361 % 4294967296 / 134217728 = (idx : Int))
    (hi : idx < 32) (hk : k < 32) (hcell : w.cell? ⟨0, idx, none⟩ = some (.int .u8 k)) :
    Calls Tryd.prog 16 #[.int .u32 x] w fun e w' => e = .returned (.int .i64 k) ∧ w' = w := by
  go_enter Tryd.func16, Tryd.ntmps16
  go_wp2_with (simp only [key])
  go_ret
  exact ⟨rfl, rfl⟩
theorem tz_any (x : Nat) (w : World) (hx : x < 4294967296) (hx0 : x ≠ 0) (hT : Tab w) :
    Calls Tryd.prog 16 #[.int .u32 x] w fun e w' => e = .returned (.int .i64 (Lib.ctz 32 x : Nat)) ∧ w' = w := by
  obtain ⟨hlow, hk⟩ := Lib.lowest_bit 32 x hx0 hx
  obtain ⟨hi, htab⟩ := Lib.deBruijn32_at _ hk
  have hcell := hT _ hi
  rw [htab] at hcell
  exact tz_core x _ _ w (by rw [beq_eq_false_iff_ne]; omega) (tz_key x _ hx hlow hx0) hi hk hcell
/-- What ctz says of the bits. -/
theorem ctz_bits (x : Nat) (hx : x < 4294967296) (hx0 : x ≠ 0) : x.testBit (Lib.ctz 32 x) = true ∧ Lib.ctz 32 x < 32 ∧ ∀ i, i < Lib.ctz 32 x → x.testBit i = false := by
  obtain ⟨m, hm, hk⟩ := Lib.ctzFrom_spec 32 x (by omega) hx
  have e : Lib.ctz 32 x = Lib.ctzFrom 32 x := by simp [Lib.ctz, hx0]
  rw [e]
  generalize Lib.ctzFrom 32 x = k at hm hk ⊢
  refine ⟨?_, hk, fun i hi => ?_⟩
  · rw [hm, Nat.mul_comm, Nat.testBit_mul_two_pow]
    simp [Nat.testBit_zero]
  · rw [hm, Nat.mul_comm, Nat.testBit_mul_two_pow]
    have : ¬ k ≤ i := by omega
    simp [this]

/-- r is the first place from i on that is set, or -1. -/
def NextIs (N : Nat) (f : Nat → Bool) (i : Nat) (r : Int) : Prop :=
  (r = -1 ∧ ∀ k, i ≤ k → k < N → f k = false) ∨ ∃ k : Nat, r = k ∧ i ≤ k ∧ k < N ∧ f k = true ∧ ∀ j, i ≤ j → j < k → f j = false
/-- What Next gives. -/
def GivesNext (w : World) (N : Nat) (f : Nat → Bool) (i : Nat) (e : Ending) (w' : World) : Prop :=
  ∃ r, e = .returned (.int .i32 r) ∧ NextIs N f i r ∧ Below w.heap.size w w'

set_option maxHeartbeats 400000 in
theorem mNext_far (N g off cap i : Nat) (f : Nat → Bool) (w : World) (hi : N ≤ i) :
    Calls Tryd.prog 13 #[.agg #[.int .i32 N, .slice (some ⟨g, off, none⟩) ((N + 31) / 32) cap], .int .i32 i] w (GivesNext w N f i) := by
  go_enter Tryd.func13, Tryd.ntmps13
  go_wp2
  go_ret
  exact ⟨-1, rfl, .inl ⟨rfl, fun k h1 h3 => by omega⟩, then_alloc (Below.refl _ _) _⟩

theorem and31_all : ∀ i : Fin 512, bits .and .i32 ((i.val : Nat) : Int) 31 = ((i.val % 32 : Nat) : Int) := by decide +kernel
theorem andNot31_all : ∀ i : Fin 512, bits .andNot .i32 ((i.val : Nat) : Int) 31 = ((32 * (i.val / 32) : Nat) : Int) := by decide +kernel
theorem and31 (i : Nat) (h : i < 512) : bits .and .i32 (i : Int) 31 = (i : Int) % 32 := by
  have h1 := and31_all ⟨i, h⟩
  exact h1
theorem andNot31 (i : Nat) (h : i < 512) : bits .andNot .i32 (i : Int) 31 = 32 * ((i : Int) / 32) := by
  have h1 := andNot31_all ⟨i, h⟩
  simp only at h1
  omega

/-- The word that holds the first place from i on. -/
theorem next_found {N : Nat} {f : Nat → Bool} {i j r : Nat} (hN : ∀ k, N ≤ k → f k = false) (hx0 : word f j / 2 ^ r ≠ 0) (hi : i ≤ 32 * j + r) (hz : ∀ k, i ≤ k → k < 32 * j + r → f k = false) :
    NextIs N f i ((32 * j + r + Lib.ctz 32 (word f j / 2 ^ r) : Nat) : Int) := by
  have hx : word f j / 2 ^ r < 4294967296 := Nat.lt_of_le_of_lt (Nat.div_le_self _ _) (word_lt f j)
  obtain ⟨h1, h2, h3⟩ := ctz_bits _ hx hx0
  generalize Lib.ctz 32 (word f j / 2 ^ r) = t at h1 h2 h3 ⊢
  rw [testBit_shr] at h1
  simp only [Bool.and_eq_true, decide_eq_true_eq] at h1
  obtain ⟨h4, h5⟩ := h1
  have e : 32 * j + (t + r) = 32 * j + r + t := by omega
  rw [e] at h5
  refine .inr ⟨_, rfl, by omega, ?_, h5, fun k hk1 hk2 => ?_⟩
  · by_cases h : 32 * j + r + t < N
    · exact h
    · rw [hN _ (by omega)] at h5; cases h5
  · by_cases h : k < 32 * j + r
    · exact hz k hk1 h
    · have h6 := h3 (k - (32 * j + r)) (by omega)
      rw [testBit_shr] at h6
      have h7 : k - (32 * j + r) + r < 32 := by omega
      have h8 : 32 * j + (k - (32 * j + r) + r) = k := by omega
      rw [h8] at h6
      simpa [h7] using h6

set_option maxHeartbeats 800000 in
theorem mNext_near (N g off cap i : Nat) (f : Nat → Bool) (w : World) (h2 : N ≤ 300) (hv : Vec w g off N f) (hN : ∀ k, N ≤ k → f k = false) (hi : i < N) (hT : Tab w) (hx0 : word f (i / 32) / 2 ^ (i % 32) ≠ 0) :
    Calls Tryd.prog 13 #[.agg #[.int .i32 N, .slice (some ⟨g, off, none⟩) ((N + 31) / 32) cap], .int .i32 i] w (GivesNext w N f i) := by
  have hg := hv.lt
  have hc := hv.cell (i / 32) (by omega)
  have m1 : bits .and .i32 (i : Int) 31 = (i : Int) % 32 := and31 i (by omega)
  have hx := Nat.lt_of_le_of_lt (Nat.div_le_self (word f (i / 32)) (2 ^ (i % 32))) (word_lt f _)
  have HF := hide (next_found (i := i) hN hx0 (by omega) (fun k h1 h3 => by omega))
  have hcz := (ctz_bits _ hx hx0).2.1
  obtain ⟨x, hxe⟩ : ∃ x, x = word f (i / 32) / 2 ^ (i % 32) := ⟨_, rfl⟩
  rw [← hxe] at hx hx0 HF hcz
  have hq : ((word f (i / 32) : Nat) : Int) / 2 ^ (i % 32) = (x : Int) := by rw [hxe]; simp
  have hz : ((x : Int) == 0) = false := by rw [beq_eq_false_iff_ne]; omega
  have HT := hide hT
  have Hx0 := hide hx0
  clear hv hT hxe hx0 hN
  go_enter Tryd.func13, Tryd.ntmps13
  go_wp2_with fail
  refine (tz_any x _ hx Hx0.out (HT.out.keep (then_alloc (Below.refl _ _) _))).mono ?_
  rintro e w2 ⟨rfl, rfl⟩
  go_wp2_with fail
  go_ret
  refine ⟨_, rfl, ?_, then_alloc (Below.refl _ _) _⟩
  have h := HF.out
  rwa [Nat.div_add_mod] at h

set_option maxHeartbeats 1600000 in
theorem mNext_on (N g off cap i : Nat) (f : Nat → Bool) (w : World) (h2 : N ≤ 300) (hv : Vec w g off N f) (hN : ∀ k, N ≤ k → f k = false) (hi : i < N) (hT : Tab w) (hx0 : word f (i / 32) / 2 ^ (i % 32) = 0) :
    Calls Tryd.prog 13 #[.agg #[.int .i32 N, .slice (some ⟨g, off, none⟩) ((N + 31) / 32) cap], .int .i32 i] w (GivesNext w N f i) := by
  have hg := hv.lt
  have hc := hv.cell (i / 32) (by omega)
  have m1 : bits .and .i32 (i : Int) 31 = (i : Int) % 32 := and31 i (by omega)
  have m2 : bits .andNot .i32 (i : Int) 31 = 32 * ((i : Int) / 32) := andNot31 i (by omega)
  have hq : ((word f (i / 32) : Nat) : Int) / 2 ^ (i % 32) = 0 := by
    have : ((word f (i / 32) / 2 ^ (i % 32) : Nat) : Int) = 0 := by rw [hx0]; rfl
    simpa using this
  have Hz0 : Hid (∀ k, i ≤ k → k < 32 * (i / 32 + 1) → f k = false) := fun k h1 h3 => by
    have h := (shr_zero f (i / 32) (i % 32)).1 hx0 (k - 32 * (i / 32)) (by omega) (by omega)
    rwa [show 32 * (i / 32) + (k - 32 * (i / 32)) = k by omega] at h
  have HT := hide hT
  have HN := hide hN
  have Hv := hide hv
  clear hv hT hx0 hN
  go_enter Tryd.func13, Tryd.ntmps13
  go_wp2_with fail
  clear hc hq m1 m2
  go_loop [1] (fun t => ∃ j : Nat, i / 32 < j ∧ j ≤ (N + 31) / 32 ∧ t = .int .i32 ((32 * j : Nat) : Int) ∧ ∀ k, i ≤ k → k < 32 * j → f k = false) (fun t => 1000 - (intOf t).toNat)
  case atStart => exact ⟨i / 32 + 1, by omega, by omega, by go_num, Hz0.out⟩
  case round =>
    obtain ⟨j, hj1, hj2, rfl, hz⟩ := hrel
    have Hz := hide hz
    clear hz
    by_cases hlt : 32 * j < N
    · have hc := Hv.out.cell j (by omega)
      have hcw : ∀ o, (w.alloc o).cell? ⟨g, off + 32 * j / 32, none⟩ = some (.int .u32 (word f j : Nat)) := fun o => by
        rw [show 32 * j / 32 = j by omega, World.cell?_alloc_lt _ _ _ hg]
        exact hc
      by_cases h0 : word f j = 0
      · go_wp2
        refine ⟨⟨j + 1, by omega, by omega, by omega, fun k h1 h3 => ?_⟩, by simp only [intOf]; omega⟩
        by_cases hk : k < 32 * j
        · exact Hz.out k h1 hk
        · have h := (word_zero f j).1 h0 (k - 32 * j) (by omega)
          rwa [show 32 * j + (k - 32 * j) = k by omega] at h
      · have hx := word_lt f j
        have HF := hide (next_found (i := i) (r := 0) HN.out (by simpa using h0) (by omega) (fun k h1 h3 => Hz.out k h1 (by omega)))
        have Hc := hide (ctz_bits _ hx h0).2.1
        have m3 : bits .and .i32 (32 * (j : Int)) 31 = 0 := by
          have h := and31 (32 * j) (by omega)
          rw [show ((32 * j : Nat) : Int) = 32 * (j : Int) by omega] at h
          rw [h]; omega
        have H0 := hide h0
        have Hx := hide hx
        clear hx
        go_wp2_with fail
        refine (tz_any _ _ Hx.out H0.out (HT.out.keep (then_alloc (Below.refl _ _) _))).mono ?_
        rintro e w2 ⟨rfl, rfl⟩
        have hcz := Hc.out
        generalize hz : Lib.ctz 32 (word f j) = z at hcz
        go_wp2_with fail
        go_ret
        refine ⟨_, rfl, ?_, then_alloc (Below.refl _ _) _⟩
        have h := HF.out
        rw [Nat.pow_zero, Nat.div_one, hz] at h
        rwa [show ((32 * j + 0 + z : Nat) : Int) = 32 * (j : Int) + (z : Int) by omega] at h
    · have e1 : decide (((32 * j : Nat) : Int) < (N : Int)) = false := decide_eq_false (by omega)
      have e2 : decide (32 * (j : Int) < (N : Int)) = false := decide_eq_false (by omega)
      have e3 : ¬ 32 * (j : Int) < (N : Int) := by omega
      go_wp2
      go_ret
      refine ⟨-1, rfl, .inl ⟨rfl, fun k h1 h3 => Hz.out k h1 (by omega)⟩, then_alloc (Below.refl _ _) _⟩
end Bv
end Go.Proofs.YtjogehjgoemdpaaDoor
