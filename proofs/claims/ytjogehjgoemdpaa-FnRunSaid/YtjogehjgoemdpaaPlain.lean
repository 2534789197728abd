/- Plain facts on words of bits and on lists: no program in sight. -/
import Derived.Laws.BitsAllLaws
namespace Go.Proofs.Ytjogehjgoemdpaa
namespace Bv

/-- The number whose bit i is f (b + i), for i below k. -/
def wordN (f : Nat → Bool) (b : Nat) : Nat → Nat
  | 0 => 0
  | k + 1 => wordN f b k + (if f (b + k) then 2 ^ k else 0)
/-- Word j of the bits f. -/
def word (f : Nat → Bool) (j : Nat) : Nat := wordN f (32 * j) 32
/-- As many of f b, .., f (b + k - 1) are set. -/
def cntN (f : Nat → Bool) (b : Nat) : Nat → Nat
  | 0 => 0
  | k + 1 => cntN f b k + (if f (b + k) then 1 else 0)

theorem wordN_lt (f : Nat → Bool) (b : Nat) : ∀ k, wordN f b k < 2 ^ k
  | 0 => by simp [wordN]
  | k + 1 => by
    have h := wordN_lt f b k
    unfold wordN
    rw [Nat.pow_succ]
    split <;> omega

theorem testBit_wordN (f : Nat → Bool) (b : Nat) : ∀ k i, (wordN f b k).testBit i = (decide (i < k) && f (b + i))
  | 0, i => by simp [wordN]
  | k + 1, i => by
    have h := wordN_lt f b k
    have ih := testBit_wordN f b k
    unfold wordN
    by_cases hf : f (b + k) = true
    · rw [if_pos hf, Nat.add_comm]
      rcases Nat.lt_trichotomy i k with hi | hi | hi
      · rw [Nat.testBit_two_pow_add_gt hi, ih]; simp [hi, Nat.lt_succ_of_lt hi]
      · subst hi; rw [Nat.testBit_two_pow_add_eq, ih]; simp [hf]
      · rw [Nat.testBit_lt_two_pow (Nat.lt_of_lt_of_le (show 2 ^ k + wordN f b k < 2 ^ (k + 1) by rw [Nat.pow_succ]; omega) (Nat.pow_le_pow_right (by decide) hi))]
        have : ¬ i < k + 1 := by omega
        simp [this]
    · rw [if_neg hf, Nat.add_zero, ih]
      by_cases hi : i = k
      · subst hi; simp [hf]
      · by_cases h1 : i < k
        · simp [h1, Nat.lt_succ_of_lt h1]
        · have : ¬ i < k + 1 := by omega
          simp [h1, this]

theorem word_lt (f : Nat → Bool) (j : Nat) : word f j < 4294967296 := wordN_lt f (32 * j) 32
theorem testBit_word (f : Nat → Bool) (j i : Nat) : (word f j).testBit i = (decide (i < 32) && f (32 * j + i)) := testBit_wordN f (32 * j) 32 i

/-- A number below 2^32 whose bits are those of f is the word. -/
theorem word_of (f : Nat → Bool) (j x : Nat) (hx : x < 2 ^ 32) (h : ∀ i, i < 32 → x.testBit i = f (32 * j + i)) : x = word f j := by
  apply Nat.eq_of_testBit_eq
  intro i
  rw [testBit_word]
  by_cases hi : i < 32
  · simp [hi, h i hi]
  · rw [Nat.testBit_lt_two_pow (Nat.lt_of_lt_of_le hx (Nat.pow_le_pow_right (by decide) (by omega)))]
    simp [hi]

theorem word_congr {f g : Nat → Bool} {j : Nat} (h : ∀ i, i < 32 → f (32 * j + i) = g (32 * j + i)) : word f j = word g j :=
  word_of g j _ (word_lt f j) fun i hi => by rw [testBit_word, h i hi]; simp [hi]
theorem word_inj {f g : Nat → Bool} {j : Nat} (h : word f j = word g j) (i : Nat) (hi : i < 32) : f (32 * j + i) = g (32 * j + i) := by
  have h1 := testBit_word f j i
  have h2 := testBit_word g j i
  rw [h] at h1
  rw [h1] at h2
  simpa [hi] using h2

theorem word_and (f g : Nat → Bool) (j : Nat) : word f j &&& word g j = word (fun i => f i && g i) j :=
  word_of _ j _ (Nat.and_lt_two_pow _ (word_lt g j)) fun i hi => by rw [Nat.testBit_and, testBit_word, testBit_word]; simp [hi]
theorem word_or (f g : Nat → Bool) (j : Nat) : word f j ||| word g j = word (fun i => f i || g i) j :=
  word_of _ j _ (Nat.or_lt_two_pow (word_lt f j) (word_lt g j)) fun i hi => by rw [Nat.testBit_or, testBit_word, testBit_word]; simp [hi]
theorem testBit_compl (x i : Nat) (hx : x < 2 ^ 32) : (4294967295 - x).testBit i = (decide (i < 32) && !x.testBit i) := by
  have e : 4294967295 - x = 2 ^ 32 - (x + 1) := by omega
  rw [e, Nat.testBit_two_pow_sub_succ hx]
theorem word_andNot (f g : Nat → Bool) (j : Nat) : word f j &&& (4294967295 - word g j) = word (fun i => f i && !g i) j :=
  word_of _ j _ (Nat.and_lt_two_pow _ (by have := word_lt g j; omega)) fun i hi => by rw [Nat.testBit_and, testBit_word, testBit_compl _ _ (word_lt g j), testBit_word]; simp [hi]
theorem word_not (f : Nat → Bool) (j : Nat) : 4294967295 ^^^ word f j = word (fun i => !f i) j :=
  word_of _ j _ (Nat.xor_lt_two_pow (by decide) (word_lt f j)) fun i hi => by
    rw [Nat.testBit_xor, show (4294967295 : Nat) = 2 ^ 32 - 1 from rfl, Nat.testBit_two_pow_sub_one, testBit_word]; simp [hi]
/-- All bits from place 32 j + r on cleared. -/
theorem word_mask (f : Nat → Bool) (j r : Nat) (hr : r < 32) : word f j &&& (2 ^ r - 1) = word (fun i => f i && decide (i < 32 * j + r)) j := by
  have h2 : 2 ^ r - 1 < 2 ^ 32 := by
    have : 2 ^ r < 2 ^ 32 := Nat.pow_lt_pow_right (by decide) hr
    omega
  refine word_of _ j _ (Nat.and_lt_two_pow _ h2) fun i hi => ?_
  rw [Nat.testBit_and, testBit_word, Nat.testBit_two_pow_sub_one]
  have e : decide (32 * j + i < 32 * j + r) = decide (i < r) := by by_cases h : i < r <;> simp [h]
  simp [hi]
theorem pow_lt32 {r : Nat} (hr : r < 32) : 2 ^ r < 4294967296 := Nat.pow_lt_pow_right (a := 2) (by decide) hr
theorem word_set (f : Nat → Bool) (j r : Nat) (hr : r < 32) : word f j ||| 2 ^ r = word (fun i => f i || decide (i = 32 * j + r)) j := by
  refine word_of _ j _ (Nat.or_lt_two_pow (word_lt f j) (pow_lt32 hr)) fun i hi => ?_
  rw [Nat.testBit_or, testBit_word, Nat.testBit_two_pow]
  have e : decide (r = i) = decide (i = r) := by by_cases h : r = i <;> simp [h] <;> omega
  simp [hi, e]
theorem word_unset (f : Nat → Bool) (j r : Nat) (hr : r < 32) : word f j &&& (4294967295 - 2 ^ r) = word (fun i => f i && !decide (i = 32 * j + r)) j := by
  refine word_of _ j _ (Nat.and_lt_two_pow _ (Nat.lt_of_le_of_lt (Nat.sub_le _ _) (by decide))) fun i hi => ?_
  rw [Nat.testBit_and, testBit_word, testBit_compl _ _ (pow_lt32 hr), Nat.testBit_two_pow]
  have e : decide (r = i) = decide (i = r) := by by_cases h : r = i <;> simp [h] <;> omega
  simp [hi, e]
theorem word_get (f : Nat → Bool) (j r : Nat) (hr : r < 32) : (word f j &&& 2 ^ r = 0) ↔ f (32 * j + r) = false := by
  have h := testBit_word f j r
  simp only [hr, decide_true, Bool.true_and] at h
  rw [← h]
  constructor
  · intro h0
    have h1 : (word f j &&& 2 ^ r).testBit r = false := by rw [h0]; simp
    rw [Nat.testBit_and, Nat.testBit_two_pow] at h1
    simpa using h1
  · intro h0
    apply Nat.eq_of_testBit_eq
    intro i
    rw [Nat.testBit_and, Nat.testBit_two_pow]
    by_cases hi : r = i
    · subst hi; simp [h0]
    · simp [hi]
theorem word_zero (f : Nat → Bool) (j : Nat) : word f j = 0 ↔ ∀ i, i < 32 → f (32 * j + i) = false := by
  constructor
  · intro h i hi
    have := testBit_word f j i
    rw [h] at this
    simpa [hi] using this.symm
  · intro h
    exact (word_of f j 0 (by decide) fun i hi => by rw [h i hi]; simp).symm
theorem word_false (j : Nat) : word (fun _ => false) j = 0 := (word_zero _ j).2 fun _ _ => rfl

/-- The bits of a word from place r on. -/
theorem testBit_shr (f : Nat → Bool) (j r i : Nat) : (word f j / 2 ^ r).testBit i = (decide (i + r < 32) && f (32 * j + (i + r))) := by
  rw [Nat.testBit_div_two_pow, testBit_word]
theorem shr_zero (f : Nat → Bool) (j r : Nat) : word f j / 2 ^ r = 0 ↔ ∀ i, r ≤ i → i < 32 → f (32 * j + i) = false := by
  constructor
  · intro h i hr hi
    have := testBit_shr f j r (i - r)
    rw [h, show i - r + r = i by omega] at this
    simpa [hi] using this.symm
  · intro h
    apply Nat.eq_of_testBit_eq
    intro i
    rw [testBit_shr]
    by_cases hi : i + r < 32
    · rw [h _ (by omega) hi]; simp
    · simp [hi]

/-- A byte of a word. -/
theorem word_byte (f : Nat → Bool) (j m : Nat) (hm : m < 4) : word f j / 2 ^ (8 * m) % 256 = wordN f (32 * j + 8 * m) 8 := by
  apply Nat.eq_of_testBit_eq
  intro i
  rw [show (256 : Nat) = 2 ^ 8 from rfl, Nat.testBit_mod_two_pow, testBit_shr, testBit_wordN]
  by_cases hi : i < 8
  · have : i + 8 * m < 32 := by omega
    simp only [hi, this, decide_true, Bool.true_and]
    congr 1; omega
  · simp [hi]

theorem cntN_add (f : Nat → Bool) (b k : Nat) : ∀ m, cntN f b (k + m) = cntN f b k + cntN f (b + k) m
  | 0 => rfl
  | m + 1 => by
    have := cntN_add f b k m
    show cntN f b (k + m) + (if f (b + (k + m)) then 1 else 0) = cntN f b k + (cntN f (b + k) m + (if f (b + k + m) then 1 else 0))
    rw [this, Nat.add_assoc b k m]; omega
theorem cntN_congr {f g : Nat → Bool} {b : Nat} : ∀ k, (∀ i, i < k → f (b + i) = g (b + i)) → cntN f b k = cntN g b k
  | 0, _ => rfl
  | k + 1, h => by
    show cntN f b k + _ = cntN g b k + _
    rw [cntN_congr k (fun i hi => h i (by omega)), h k (by omega)]
theorem cntN_le (f : Nat → Bool) (b : Nat) : ∀ k, cntN f b k ≤ k
  | 0 => Nat.le_refl _
  | k + 1 => by
    have := cntN_le f b k
    show cntN f b k + (if f (b + k) then 1 else 0) ≤ k + 1
    split <;> omega
theorem cntN_zero {f : Nat → Bool} {b : Nat} : ∀ k, (∀ i, i < k → f (b + i) = false) → cntN f b k = 0
  | 0, _ => rfl
  | k + 1, h => by
    show cntN f b k + (if f (b + k) then 1 else 0) = 0
    rw [cntN_zero k (fun i hi => h i (by omega)), h k (by omega)]; rfl

/-- The places from 0 to n - 1 that are set. -/
def on (n : Nat) (f : Nat → Bool) : List Nat := (List.range n).filter f
theorem on_zero (f : Nat → Bool) : on 0 f = [] := rfl
theorem on_succ (n : Nat) (f : Nat → Bool) : on (n + 1) f = on n f ++ (if f n then [n] else []) := by
  unfold on
  rw [List.range_succ, List.filter_append]
  by_cases h : f n <;> simp [h]
theorem on_length (n : Nat) (f : Nat → Bool) : (on n f).length = cntN f 0 n := by
  induction n with
  | zero => rfl
  | succ n ih =>
    rw [on_succ, List.length_append, ih]
    show _ = cntN f 0 n + (if f (0 + n) then 1 else 0)
    rw [Nat.zero_add]
    by_cases h : f n <;> simp [h]
theorem on_le (n : Nat) (f : Nat → Bool) : (on n f).length ≤ n := by rw [on_length]; exact cntN_le _ _ _
theorem mem_on {n : Nat} {f : Nat → Bool} {i : Nat} : i ∈ on n f ↔ i < n ∧ f i = true := by simp [on]
theorem on_congr {n : Nat} {f g : Nat → Bool} (h : ∀ i, i < n → f i = g i) : on n f = on n g := by
  unfold on
  exact List.filter_congr fun i hi => h i (by simpa using hi)
theorem on_inj {n : Nat} {f g : Nat → Bool} (h : on n f = on n g) (i : Nat) (hi : i < n) : f i = g i := by
  have h1 : (i ∈ on n f) ↔ (i ∈ on n g) := by rw [h]
  rw [mem_on, mem_on] at h1
  cases hf : f i <;> cases hg : g i <;> simp_all

/-- The bits told by a list of places. -/
def bitsOf (l : List Nat) : Nat → Bool := fun i => decide (i ∈ l)
/-- Bit i set to x. -/
def upd (f : Nat → Bool) (i : Nat) (x : Bool) : Nat → Bool := fun k => if k = i then x else f k
theorem bitsOf_nil : bitsOf [] = fun _ => false := by funext i; simp [bitsOf]
theorem bitsOf_snoc (l : List Nat) (a : Nat) : bitsOf (l ++ [a]) = upd (bitsOf l) a true := by
  funext i
  unfold bitsOf upd
  by_cases h : i = a <;> simp [h]
theorem bitsOf_on {n : Nat} {f : Nat → Bool} : ∀ i, i < n → bitsOf (on n f) i = f i := fun i hi => by
  unfold bitsOf
  cases h : f i <;> simp [mem_on, hi, h]
theorem bitsOf_lt {n : Nat} {l : List Nat} (h : ∀ x ∈ l, x < n) : ∀ i, n ≤ i → bitsOf l i = false := fun i hi => by
  unfold bitsOf
  have : i ∉ l := fun hm => by have := h i hm; omega
  simp [this]
theorem word_upd_true (f : Nat → Bool) (i : Nat) : word f (i / 32) ||| 2 ^ (i % 32) = word (upd f i true) (i / 32) := by
  rw [word_set f (i / 32) (i % 32) (Nat.mod_lt _ (by decide))]
  refine word_congr fun k _ => ?_
  unfold upd
  rw [Nat.div_add_mod]
  by_cases h : 32 * (i / 32) + k = i <;> simp [h]
theorem word_upd_false (f : Nat → Bool) (i : Nat) : word f (i / 32) &&& (4294967295 - 2 ^ (i % 32)) = word (upd f i false) (i / 32) := by
  rw [word_unset f (i / 32) (i % 32) (Nat.mod_lt _ (by decide))]
  refine word_congr fun k _ => ?_
  unfold upd
  rw [Nat.div_add_mod]
  by_cases h : 32 * (i / 32) + k = i <;> simp [h]
theorem word_upd_other (f : Nat → Bool) (i j : Nat) (x : Bool) (h : j ≠ i / 32) : word (upd f i x) j = word f j := by
  refine word_congr fun k hk => ?_
  unfold upd
  rw [if_neg (by omega)]
theorem word_at (f : Nat → Bool) (i : Nat) : (word f (i / 32) &&& 2 ^ (i % 32) = 0) ↔ f i = false := by
  rw [word_get f _ _ (Nat.mod_lt _ (by decide)), Nat.div_add_mod]


/-- What is counted word by word is what is set below n. -/
theorem cnt_on {N : Nat} {f : Nat → Bool} (h : ∀ i, N ≤ i → f i = false) : cntN f 0 (32 * ((N + 31) / 32)) = (on N f).length := by
  have e : 32 * ((N + 31) / 32) = N + (32 * ((N + 31) / 32) - N) := by omega
  have z : cntN f (0 + N) (32 * ((N + 31) / 32) - N) = 0 := cntN_zero _ fun i _ => h _ (by omega)
  rw [e, cntN_add, on_length, z]
  rfl
theorem cntN_not (f : Nat → Bool) (b : Nat) : ∀ k, cntN f b k + cntN (fun i => !f i) b k = k
  | 0 => rfl
  | k + 1 => by
    have h := cntN_not f b k
    show cntN f b k + (if f (b + k) then 1 else 0) + (cntN (fun i => !f i) b k + (if !f (b + k) then 1 else 0)) = k + 1
    cases f (b + k) <;> simp <;> omega
theorem cntN_both (f g : Nat → Bool) (b : Nat) : ∀ k, cntN f b k + cntN g b k = cntN (fun i => f i && g i) b k + cntN (fun i => f i || g i) b k
  | 0 => rfl
  | k + 1 => by
    have h := cntN_both f g b k
    show cntN f b k + (if f (b + k) then 1 else 0) + (cntN g b k + (if g (b + k) then 1 else 0)) =
      cntN (fun i => f i && g i) b k + (if f (b + k) && g (b + k) then 1 else 0) + (cntN (fun i => f i || g i) b k + (if f (b + k) || g (b + k) then 1 else 0))
    cases f (b + k) <;> cases g (b + k) <;> simp <;> omega
/-- The lengths of what is set and of what is not. -/
theorem on_not {N : Nat} {f g : Nat → Bool} (h : ∀ i, i < N → g i = !f i) : (on N g).length = N - (on N f).length := by
  rw [on_length, on_length, cntN_congr (f := g) (g := fun i => !f i) N fun i hi => by rw [Nat.zero_add]; exact h i hi]
  have := cntN_not f 0 N
  omega
theorem on_both (N : Nat) (f g : Nat → Bool) : (on N f).length + (on N g).length = (on N fun i => f i && g i).length + (on N fun i => f i || g i).length := by
  simp only [on_length]
  exact cntN_both f g 0 N
theorem on_none {N : Nat} {f : Nat → Bool} (h : ∀ i, i < N → f i = false) : on N f = [] := by
  unfold on
  rw [List.filter_eq_nil_iff]
  intro i hi
  simp at hi
  simp [h i hi]

end Bv
end Go.Proofs.Ytjogehjgoemdpaa
