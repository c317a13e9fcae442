/-
  PLAIN: words of 64 bits as sets of numbers. No Go in sight.
-/
namespace Go.Proofs.Qxb6603747a.Pl

/-- The number whose bits below n are p. -/
def low (p : Nat → Bool) : Nat → Nat
  | 0 => 0
  | n + 1 => low p n + (if p n then 2 ^ n else 0)

theorem low_lt (p : Nat → Bool) (n : Nat) : low p n < 2 ^ n := by
  induction n with
  | zero => simp [low]
  | succ n ih =>
    rw [low, Nat.pow_succ]
    split <;> omega

theorem low_testBit (p : Nat → Bool) (n j : Nat) : (low p n).testBit j = (decide (j < n) && p j) := by
  induction n with
  | zero => simp [low]
  | succ n ih =>
    have hl := low_lt p n
    rw [low]
    split
    · rename_i hp
      rw [Nat.add_comm]
      by_cases hj : j = n
      · subst hj
        rw [Nat.testBit_two_pow_add_eq, ih]
        simp [hp]
      · by_cases hlt : j < n
        · rw [Nat.testBit_two_pow_add_gt hlt, ih]
          simp [hlt, show j < n + 1 by omega]
        · have h1 : 2 ^ n + low p n < 2 ^ j := by
            have : 2 ^ (n + 1) ≤ 2 ^ j := Nat.pow_le_pow_right (by omega) (by omega)
            rw [Nat.pow_succ] at this
            omega
          rw [Nat.testBit_lt_two_pow h1]
          simp [show ¬ j < n + 1 by omega]
    · rename_i hp
      rw [Nat.add_zero, ih]
      by_cases hj : j = n
      · subst hj; simp [hp]
      · have : (j < n + 1) = (j < n) := by apply propext; omega
        simp only [this]

/-- The k-th word of 64 bits of a set of numbers. -/
def word (p : Nat → Bool) (k : Nat) : Nat := low (fun j => p (64 * k + j)) 64

theorem word_lt (p : Nat → Bool) (k : Nat) : word p k < 18446744073709551616 := low_lt _ 64

theorem word_testBit (p : Nat → Bool) (k j : Nat) : (word p k).testBit j = (decide (j < 64) && p (64 * k + j)) := by
  rw [word, low_testBit]

theorem word_congr {p q : Nat → Bool} {k : Nat} (h : ∀ j, j < 64 → p (64 * k + j) = q (64 * k + j)) : word p k = word q k := by
  apply Nat.eq_of_testBit_eq
  intro j
  rw [word_testBit, word_testBit]
  by_cases hj : j < 64
  · simp [hj, h j hj]
  · simp [hj]

theorem word_none (k : Nat) : word (fun _ => false) k = 0 := by
  apply Nat.eq_of_testBit_eq
  intro j
  simp [word_testBit]

theorem word_or (p q : Nat → Bool) (k : Nat) : word (fun v => p v || q v) k = word p k ||| word q k := by
  apply Nat.eq_of_testBit_eq
  intro j
  rw [Nat.testBit_or, word_testBit, word_testBit, word_testBit]
  cases decide (j < 64) <;> simp

theorem word_one (b k : Nat) : word (fun v => v == b) k = if k = b / 64 then 2 ^ (b % 64) else 0 := by
  apply Nat.eq_of_testBit_eq
  intro j
  rw [word_testBit]
  split
  · rename_i h
    rw [Nat.testBit_two_pow]
    by_cases hj : j < 64
    · by_cases e : b % 64 = j
      · simp [hj, e]; omega
      · simp [hj, e]; omega
    · simp [hj]; omega
  · rename_i h
    simp only [Nat.zero_testBit, Bool.and_eq_false_iff, decide_eq_false_iff_not, beq_eq_false_iff_ne]
    omega

/-- The complement. -/
theorem word_not (p : Nat → Bool) (k : Nat) : word (fun v => !p v) k = 18446744073709551615 ^^^ word p k := by
  apply Nat.eq_of_testBit_eq
  intro j
  rw [Nat.testBit_xor, word_testBit, word_testBit, show (18446744073709551615 : Nat) = 2 ^ 64 - 1 from rfl, Nat.testBit_two_pow_sub_one]
  cases decide (j < 64) <;> simp

/-- One word of a range: the mask that addRange lays. -/
theorem word_range (lo hi k : Nat) (h1 : lo / 64 ≤ k) (h2 : k ≤ hi / 64) (h3 : lo ≤ hi) :
    word (fun v => decide (lo ≤ v) && decide (v ≤ hi)) k =
      (18446744073709551615 / 2 ^ (63 - min hi (k * 64 + 63) % 64)) &&& (18446744073709551615 - (2 ^ (max lo (k * 64) % 64) - 1)) := by
  have hf : max lo (k * 64) % 64 < 64 := Nat.mod_lt _ (by decide)
  have hl : min hi (k * 64 + 63) % 64 < 64 := Nat.mod_lt _ (by decide)
  apply Nat.eq_of_testBit_eq
  intro j
  rw [Nat.testBit_and, word_testBit, show (18446744073709551615 : Nat) = 2 ^ 64 - 1 from rfl, Nat.testBit_div_two_pow, Nat.testBit_two_pow_sub_one]
  have hp : 2 ^ (max lo (k * 64) % 64) - 1 < 2 ^ 64 := by
    have : 2 ^ (max lo (k * 64) % 64) < 2 ^ 64 := Nat.pow_lt_pow_right (by decide) hf
    omega
  rw [show 2 ^ 64 - 1 - (2 ^ (max lo (k * 64) % 64) - 1) = 2 ^ 64 - ((2 ^ (max lo (k * 64) % 64) - 1) + 1) by omega, Nat.testBit_two_pow_sub_succ hp, Nat.testBit_two_pow_sub_one]
  by_cases hj : j < 64
  · rw [Bool.eq_iff_iff]
    simp only [hj, decide_true, Bool.true_and, Bool.and_eq_true, decide_eq_true_eq, Bool.not_eq_true', decide_eq_false_iff_not]
    omega
  · rw [Bool.eq_iff_iff]
    simp only [hj, decide_false, Bool.false_and, Bool.and_false]

theorem word_range_out (lo hi k : Nat) (h : k < lo / 64 ∨ hi / 64 < k) : word (fun v => decide (lo ≤ v) && decide (v ≤ hi)) k = 0 := by
  apply Nat.eq_of_testBit_eq
  intro j
  rw [word_testBit]
  simp only [Nat.zero_testBit, Bool.and_eq_false_iff, decide_eq_false_iff_not]
  omega

/-- A bit is read back. -/
theorem word_bit (p : Nat → Bool) (v : Nat) : (word p (v / 64) / 2 ^ (v % 64) &&& 1 == 1) = p v := by
  have h : (word p (v / 64)).testBit (v % 64) = p v := by
    rw [word_testBit]
    have : 64 * (v / 64) + v % 64 = v := by omega
    rw [this]
    simp; intro; omega
  rw [← h, Nat.testBit, Nat.shiftRight_eq_div_pow, Nat.and_comm]
  rw [Nat.and_comm 1]
  have := Nat.and_one_is_mod (word p (v / 64) / 2 ^ (v % 64))
  rw [this]
  rcases Nat.mod_two_eq_zero_or_one (word p (v / 64) / 2 ^ (v % 64)) with e | e <;> simp [e]

end Go.Proofs.Qxb6603747a.Pl
