/- Contract of OnesCount32. -/
import Derived.Test.YtjogehjgoemdpaaCore
import Derived.BigQuiet
import Derived.Deep.QuietTactic
namespace Go.Proofs.Ytjogehjgoemdpaa
open Go.RowKit
namespace Bv

/-- How many bits of a byte are set. -/
def pop (i : Nat) : Nat := i % 2 + i / 2 % 2 + i / 4 % 2 + i / 8 % 2 + i / 16 % 2 + i / 32 % 2 + i / 64 % 2 + i / 128 % 2

set_option maxRecDepth 100000 in
theorem pop_index (i : Nat) (hi : i < 256) (j : Int) (hj : j = i) (w : World) : (Instr.index 9 (.string ⟨#[0, 1, 1, 2, 1, 2, 2, 3, 1, 2, 2, 3, 2, 3, 3, 4, 1, 2, 2, 3, 2, 3, 3, 4, 2, 3, 3, 4, 3, 4, 4, 5, 1, 2, 2, 3, 2, 3, 3, 4, 2, 3, 3, 4, 3, 4, 4, 5, 2, 3, 3, 4, 3, 4, 4, 5, 3, 4, 4, 5, 4, 5, 5, 6, 1, 2, 2, 3, 2, 3, 3, 4, 2, 3, 3, 4, 3, 4, 4, 5, 2, 3, 3, 4, 3, 4, 4, 5, 3, 4, 4, 5, 4, 5, 5, 6, 2, 3, 3, 4, 3, 4, 4, 5, 3, 4, 4, 5, 4, 5, 5, 6, 3, 4, 4, 5, 4, 5, 5, 6, 4, 5, 5, 6, 5, 6, 6, 7, 1, 2, 2, 3, 2, 3, 3, 4, 2, 3, 3, 4, 3, 4, 4, 5, 2, 3, 3, 4, 3, 4, 4, 5, 3, 4, 4, 5, 4, 5, 5, 6, 2, 3, 3, 4, 3, 4, 4, 5, 3, 4, 4, 5, 4, 5, 5, 6, 3, 4, 4, 5, 4, 5, 5, 6, 4, 5, 5, 6, 5, 6, 6, 7, 2, 3, 3, 4, 3, 4, 4, 5, 3, 4, 4, 5, 4, 5, 5, 6, 3, 4, 4, 5, 4, 5, 5, 6, 4, 5, 5, 6, 5, 6, 6, 7, 3, 4, 4, 5, 4, 5, 5, 6, 4, 5, 5, 6, 5, 6, 6, 7, 4, 5, 5, 6, 5, 6, 6, 7, 5, 6, 6, 7, 6, 7, 7, 8]⟩) (.int .u32 j)).run Try.prog w = .ok (.int .u8 (pop i : Nat)) w := by
  subst hj
  have all : ∀ k : Fin 256, ((⟨#[0, 1, 1, 2, 1, 2, 2, 3, 1, 2, 2, 3, 2, 3, 3, 4, 1, 2, 2, 3, 2, 3, 3, 4, 2, 3, 3, 4, 3, 4, 4, 5, 1, 2, 2, 3, 2, 3, 3, 4, 2, 3, 3, 4, 3, 4, 4, 5, 2, 3, 3, 4, 3, 4, 4, 5, 3, 4, 4, 5, 4, 5, 5, 6, 1, 2, 2, 3, 2, 3, 3, 4, 2, 3, 3, 4, 3, 4, 4, 5, 2, 3, 3, 4, 3, 4, 4, 5, 3, 4, 4, 5, 4, 5, 5, 6, 2, 3, 3, 4, 3, 4, 4, 5, 3, 4, 4, 5, 4, 5, 5, 6, 3, 4, 4, 5, 4, 5, 5, 6, 4, 5, 5, 6, 5, 6, 6, 7, 1, 2, 2, 3, 2, 3, 3, 4, 2, 3, 3, 4, 3, 4, 4, 5, 2, 3, 3, 4, 3, 4, 4, 5, 3, 4, 4, 5, 4, 5, 5, 6, 2, 3, 3, 4, 3, 4, 4, 5, 3, 4, 4, 5, 4, 5, 5, 6, 3, 4, 4, 5, 4, 5, 5, 6, 4, 5, 5, 6, 5, 6, 6, 7, 2, 3, 3, 4, 3, 4, 4, 5, 3, 4, 4, 5, 4, 5, 5, 6, 3, 4, 4, 5, 4, 5, 5, 6, 4, 5, 5, 6, 5, 6, 6, 7, 3, 4, 4, 5, 4, 5, 5, 6, 4, 5, 5, 6, 5, 6, 6, 7, 4, 5, 5, 6, 5, 6, 6, 7, 5, 6, 6, 7, 6, 7, 7, 8]⟩ : ByteArray)[k.val]'(k.isLt)).toNat = pop k.val := by decide +kernel
  have h := all ⟨i, hi⟩
  rw [run_index_string _ _ _ _ _ Try.underlying9]
  have hb : 0 ≤ (i : Int) ∧ (i : Int) < ((⟨#[0, 1, 1, 2, 1, 2, 2, 3, 1, 2, 2, 3, 2, 3, 3, 4, 1, 2, 2, 3, 2, 3, 3, 4, 2, 3, 3, 4, 3, 4, 4, 5, 1, 2, 2, 3, 2, 3, 3, 4, 2, 3, 3, 4, 3, 4, 4, 5, 2, 3, 3, 4, 3, 4, 4, 5, 3, 4, 4, 5, 4, 5, 5, 6, 1, 2, 2, 3, 2, 3, 3, 4, 2, 3, 3, 4, 3, 4, 4, 5, 2, 3, 3, 4, 3, 4, 4, 5, 3, 4, 4, 5, 4, 5, 5, 6, 2, 3, 3, 4, 3, 4, 4, 5, 3, 4, 4, 5, 4, 5, 5, 6, 3, 4, 4, 5, 4, 5, 5, 6, 4, 5, 5, 6, 5, 6, 6, 7, 1, 2, 2, 3, 2, 3, 3, 4, 2, 3, 3, 4, 3, 4, 4, 5, 2, 3, 3, 4, 3, 4, 4, 5, 3, 4, 4, 5, 4, 5, 5, 6, 2, 3, 3, 4, 3, 4, 4, 5, 3, 4, 4, 5, 4, 5, 5, 6, 3, 4, 4, 5, 4, 5, 5, 6, 4, 5, 5, 6, 5, 6, 6, 7, 2, 3, 3, 4, 3, 4, 4, 5, 3, 4, 4, 5, 4, 5, 5, 6, 3, 4, 4, 5, 4, 5, 5, 6, 4, 5, 5, 6, 5, 6, 6, 7, 3, 4, 4, 5, 4, 5, 5, 6, 4, 5, 5, 6, 5, 6, 6, 7, 4, 5, 5, 6, 5, 6, 6, 7, 5, 6, 6, 7, 6, 7, 7, 8]⟩ : ByteArray).size : Int) := ⟨by omega, by show (i : Int) < 256; omega⟩
  rw [dif_pos hb]
  simp only [Int.toNat_natCast]
  rw [h]
theorem bit_mod (f : Nat → Bool) (b n k : Nat) (hk : k < n) : wordN f b n / 2 ^ k % 2 = if f (b + k) then 1 else 0 := by
  have h := testBit_wordN f b n k
  simp only [hk, decide_true, Bool.true_and] at h
  rw [← h, ← Nat.toNat_testBit]
  cases (wordN f b n).testBit k <;> rfl
theorem pop_wordN (f : Nat → Bool) (b : Nat) : pop (wordN f b 8) = cntN f b 8 := by
  have h0 := bit_mod f b 8 0 (by decide)
  have h1 := bit_mod f b 8 1 (by decide)
  have h2 := bit_mod f b 8 2 (by decide)
  have h3 := bit_mod f b 8 3 (by decide)
  have h4 := bit_mod f b 8 4 (by decide)
  have h5 := bit_mod f b 8 5 (by decide)
  have h6 := bit_mod f b 8 6 (by decide)
  have h7 := bit_mod f b 8 7 (by decide)
  simp only [Nat.pow_zero, Nat.div_one, Nat.reducePow] at h0 h1 h2 h3 h4 h5 h6 h7
  unfold pop
  rw [h0, h1, h2, h3, h4, h5, h6, h7]
  simp only [cntN]
  omega
/-- The four bytes of a word. -/
theorem pop_word (f : Nat → Bool) (j : Nat) : pop (word f j / 16777216) + pop (word f j / 65536 % 256) + pop (word f j / 256 % 256) + pop (word f j % 256) = cntN f (32 * j) 32 := by
  have hl := word_lt f j
  have b0 := word_byte f j 0 (by decide)
  have b1 := word_byte f j 1 (by decide)
  have b2 := word_byte f j 2 (by decide)
  have b3 := word_byte f j 3 (by decide)
  simp only [Nat.mul_zero, Nat.pow_zero, Nat.div_one, Nat.reduceMul, Nat.reducePow, Nat.add_zero] at b0 b1 b2 b3
  have e3 : word f j / 16777216 = word f j / 16777216 % 256 := by omega
  rw [e3, b0, b1, b2, b3, pop_wordN, pop_wordN, pop_wordN, pop_wordN]
  have h1 := cntN_add f (32 * j) 8 24
  have h2 := cntN_add f (32 * j + 8) 8 16
  have h3 := cntN_add f (32 * j + 16) 8 8
  simp only [Nat.reduceAdd, Nat.add_assoc] at h1 h2 h3
  omega

theorem and255 (y : Nat) (hy : y < 4294967296) : bits .and .u32 (y : Int) 255 = (y : Int) % 256 := by
  have h := u32_and_nat y 255 hy (by decide)
  rw [show ((255 : Nat) : Int) = 255 from rfl] at h
  rw [h, nat_mask8]
  omega

set_option maxRecDepth 100000 in
set_option maxHeartbeats 1000000 in
theorem ones_any (f : Nat → Bool) (j : Nat) (w : World) :
    Calls Try.prog 62 #[.int .u32 (word f j : Nat)] w fun e w' => e = .returned (.int .i64 (cntN f (32 * j) 32 : Nat)) ∧ Below w.heap.size w w' := by
  have hx := word_lt f j
  have Hp := hide (pop_word f j)
  have Hc := hide (cntN_le f (32 * j) 32)
  generalize word f j = x at hx Hp ⊢
  have i0 := pop_index (x / 16777216) (by omega) ((x : Int) / 16777216) (by omega)
  have i1 := pop_index (x / 65536 % 256) (by omega) ((x : Int) / 65536 % 256) (by omega)
  have i2 := pop_index (x / 256 % 256) (by omega) ((x : Int) / 256 % 256) (by omega)
  have i3 := pop_index (x % 256) (by omega) ((x : Int) % 256) (by omega)
  have a0 : bits .and .u32 ((x : Int) / 65536) 255 = (x : Int) / 65536 % 256 := and255 (x / 65536) (by omega)
  have a1 : bits .and .u32 ((x : Int) / 256) 255 = (x : Int) / 256 % 256 := and255 (x / 256) (by omega)
  have a2 : bits .and .u32 (x : Int) 255 = (x : Int) % 256 := and255 x hx
  go_enter Try.func62, Try.ntmps62
  go_wp2
  go_quiet (fail)
  clear i0 i1 i2 i3 a0 a1 a2
  go_wp2
  go_ret
  have hp := Hp.out
  have hc := Hc.out
  refine ⟨ret_int ?_, drewN_below (Below.refl _ _) _⟩
  omega
end Bv
end Go.Proofs.Ytjogehjgoemdpaa
