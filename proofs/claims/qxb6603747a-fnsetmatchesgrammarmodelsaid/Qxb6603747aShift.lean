/-
  PLAIN: a step of the positions by one, words of 64 bits. No Go in sight.
-/
namespace Go.Proofs.Qxb6603747a.Pl

def now (f q : Nat → Nat) (k : Nat) : Nat := f k &&& q k
def car (f q : Nat → Nat) : Nat → Nat
  | 0 => 0
  | k + 1 => now f q k / 2 ^ 63
def new (f q : Nat → Nat) (k : Nat) : Nat := (now f q k * 2) % 2 ^ 64 ||| car f q k
def liv (f q : Nat → Nat) : Nat → Nat
  | 0 => 0
  | k + 1 => liv f q k ||| new f q k
def bit (f : Nat → Nat) (p : Nat) : Bool := (f (p / 64)).testBit (p % 64)
def stp (f q : Nat → Nat) (last : Nat) : Nat → Nat := fun j => if j ≤ last then new f q j else f j
def want (f q : Nat → Nat) (p : Nat) : Bool := decide (0 < p) && bit f (p - 1) && bit q (p - 1)
def anyW (f q : Nat → Nat) : Nat → Bool
  | 0 => false
  | k + 1 => anyW f q k || want f q k

theorem now_lt (f q : Nat → Nat) (k : Nat) (h : f k < 2 ^ 64) : now f q k < 2 ^ 64 := Nat.lt_of_le_of_lt Nat.and_le_left h

theorem car_lt (f q : Nat → Nat) (k n : Nat) (hk : k ≤ n) (h : ∀ j, j < n → f j < 2 ^ 64) : car f q k < 2 := by
  cases k with
  | zero => exact (by decide : (0 : Nat) < 2)
  | succ k =>
    have := now_lt f q k (h k (by omega))
    show now f q k / 2 ^ 63 < 2
    omega

theorem new_lt (f q : Nat → Nat) (k n : Nat) (hk : k ≤ n) (h : ∀ j, j < n → f j < 2 ^ 64) : new f q k < 2 ^ 64 := by
  have h1 := car_lt f q k n hk h
  exact Nat.or_lt_two_pow (Nat.mod_lt _ (by decide)) (by omega)

theorem now_bit (f q : Nat → Nat) (k b : Nat) : (now f q k).testBit b = ((f k).testBit b && (q k).testBit b) := Nat.testBit_and ..

theorem twice_bit (x b : Nat) : (x * 2).testBit b = (decide (0 < b) && x.testBit (b - 1)) := by
  cases b with
  | zero => simp
  | succ b =>
    rw [Nat.testBit_succ, Nat.mul_div_cancel _ (by decide)]
    simp

theorem car_bit (f q : Nat → Nat) (k b n : Nat) (hk : k ≤ n) (h : ∀ j, j < n → f j < 2 ^ 64) : (car f q k).testBit b = (decide (b = 0) && decide (0 < k) && (now f q (k - 1)).testBit 63) := by
  have hc := car_lt f q k n hk h
  cases k with
  | zero => simp [car]
  | succ k =>
    have hn := now_lt f q k (h k (by omega))
    cases b with
    | zero =>
      show (now f q k / 2 ^ 63).testBit 0 = _
      rw [Nat.testBit_div_two_pow]
      simp
    | succ b =>
      have h2 : 2 ^ 1 ≤ 2 ^ (b + 1) := Nat.pow_le_pow_right (by decide) (by omega)
      rw [Nat.testBit_lt_two_pow (Nat.lt_of_lt_of_le hc h2)]
      simp

theorem new_bit (f q : Nat → Nat) (k b n : Nat) (hk : k ≤ n) (hb : b < 64) (h : ∀ j, j < n → f j < 2 ^ 64) : (new f q k).testBit b = want f q (64 * k + b) := by
  unfold new want bit
  rw [Nat.testBit_or, Nat.testBit_mod_two_pow, twice_bit, car_bit f q k b n hk h]
  by_cases h0 : b = 0
  · subst h0
    cases k with
    | zero => simp
    | succ k =>
      have e1 : (64 * (k + 1) + 0 - 1) / 64 = k := by omega
      have e2 : (64 * (k + 1) + 0 - 1) % 64 = 63 := by omega
      rw [e1, e2]
      simp [now_bit]
  · have e1 : (64 * k + b - 1) / 64 = k := by omega
    have e2 : (64 * k + b - 1) % 64 = b - 1 := by omega
    have e3 : 0 < b := by omega
    have e4 : 0 < 64 * k + b := by omega
    rw [e1, e2, now_bit]
    simp [hb, h0, e3, e4]

/-- THE LAW OF THE POSITIONS. -/
theorem stp_bit (f q : Nat → Nat) (n top p : Nat) (hp : p < 64 * n) (ht : top < n) (h : ∀ j, j < n → f j < 2 ^ 64) (hz : ∀ j, top < j → j < n → f j = 0) :
    bit (stp f q (min (top + 1) (n - 1))) p = want f q p := by
  have hj : p / 64 < n := by omega
  have hb : p % 64 < 64 := Nat.mod_lt _ (by decide)
  have hp' : 64 * (p / 64) + p % 64 = p := by omega
  by_cases g : p / 64 ≤ min (top + 1) (n - 1)
  · show (if p / 64 ≤ min (top + 1) (n - 1) then new f q (p / 64) else f (p / 64)).testBit (p % 64) = _
    rw [if_pos g, new_bit f q (p / 64) (p % 64) n (by omega) hb h, hp']
  · show (if p / 64 ≤ min (top + 1) (n - 1) then new f q (p / 64) else f (p / 64)).testBit (p % 64) = _
    rw [if_neg g, hz (p / 64) (by omega) hj]
    unfold want bit
    rw [hz ((p - 1) / 64) (by omega) (by omega)]
    simp

theorem anyW_iff (f q : Nat → Nat) (k : Nat) : anyW f q k = true ↔ ∃ p, p < k ∧ want f q p = true := by
  induction k with
  | zero => simp [anyW]
  | succ k ih =>
    rw [anyW, Bool.or_eq_true, ih]
    constructor
    · rintro (⟨p, h1, h2⟩ | h)
      · exact ⟨p, by omega, h2⟩
      · exact ⟨k, by omega, h⟩
    · rintro ⟨p, h1, h2⟩
      by_cases e : p = k
      · subst e; exact Or.inr h2
      · exact Or.inl ⟨p, by omega, h2⟩

theorem liv_bit (f q : Nat → Nat) (k b : Nat) : (liv f q k).testBit b = true ↔ ∃ j, j < k ∧ (new f q j).testBit b = true := by
  induction k with
  | zero => simp [liv]
  | succ k ih =>
    rw [liv, Nat.testBit_or, Bool.or_eq_true, ih]
    constructor
    · rintro (⟨p, h1, h2⟩ | h)
      · exact ⟨p, by omega, h2⟩
      · exact ⟨k, by omega, h⟩
    · rintro ⟨p, h1, h2⟩
      by_cases e : p = k
      · subst e; exact Or.inr h2
      · exact Or.inl ⟨p, by omega, h2⟩

theorem liv_lt (f q : Nat → Nat) (k n : Nat) (hk : k ≤ n + 1) (h : ∀ j, j < n → f j < 2 ^ 64) : liv f q k < 2 ^ 64 := by
  induction k with
  | zero => exact (by decide : (0 : Nat) < 2 ^ 64)
  | succ k ih => exact Nat.or_lt_two_pow (ih (by omega)) (new_lt f q k n (by omega) h)

/-- THE LAW OF WHAT IS LEFT. -/
theorem liv_any (f q : Nat → Nat) (n top : Nat) (ht : top < n) (h : ∀ j, j < n → f j < 2 ^ 64) (hz : ∀ j, top < j → j < n → f j = 0) :
    ((liv f q (min (top + 1) (n - 1) + 1) : Int) != 0) = anyW f q (64 * n) := by
  rw [Bool.eq_iff_iff, bne_iff_ne, anyW_iff]
  constructor
  · intro hne
    have hne' : liv f q (min (top + 1) (n - 1) + 1) ≠ 0 := by omega
    obtain ⟨b, hb⟩ := Nat.exists_testBit_of_ne_zero hne'
    obtain ⟨j, hj, hjb⟩ := (liv_bit f q _ b).1 hb
    have hb64 : b < 64 := by
      rcases Nat.lt_or_ge b 64 with g | g
      · exact g
      · have := new_lt f q j n (by omega) h
        rw [Nat.testBit_lt_two_pow (Nat.lt_of_lt_of_le this (Nat.pow_le_pow_right (by decide) g))] at hjb
        cases hjb
    exact ⟨64 * j + b, by omega, by rw [← new_bit f q j b n (by omega) hb64 h]; exact hjb⟩
  · rintro ⟨p, hp, hw⟩
    have hs := stp_bit f q n top p hp ht h hz
    rw [hw] at hs
    have g : p / 64 ≤ min (top + 1) (n - 1) := by
      rcases Nat.lt_or_ge (min (top + 1) (n - 1)) (p / 64) with g | g
      · have : bit (stp f q (min (top + 1) (n - 1))) p = false := by
          show (if p / 64 ≤ min (top + 1) (n - 1) then new f q (p / 64) else f (p / 64)).testBit (p % 64) = _
          rw [if_neg (by omega), hz (p / 64) (by omega) (by omega)]
          simp
        rw [this] at hs; cases hs
      · exact g
    have hnb : (new f q (p / 64)).testBit (p % 64) = true := by
      have : (if p / 64 ≤ min (top + 1) (n - 1) then new f q (p / 64) else f (p / 64)).testBit (p % 64) = true := hs
      rwa [if_pos g] at this
    have hl : (liv f q (min (top + 1) (n - 1) + 1)).testBit (p % 64) = true := (liv_bit f q _ _).2 ⟨p / 64, by omega, hnb⟩
    intro e
    have e' : liv f q (min (top + 1) (n - 1) + 1) = 0 := by omega
    rw [e'] at hl
    simp at hl

end Go.Proofs.Qxb6603747a.Pl
