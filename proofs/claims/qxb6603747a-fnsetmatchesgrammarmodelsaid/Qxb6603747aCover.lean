/-
  PLAIN: ranges laid as differences; their running sum counts the ranges that cover a value.
-/
import Derived.Test.Qxb6603747aGram
namespace Go.Proofs.Qxb6603747a.Pl

/-- What one range lays at j. -/
def one (x : Nat × Nat) (j : Nat) : Int := (if x.1 = j then 1 else 0) - (if x.2 + 1 = j then 1 else 0)
/-- The table of differences. -/
def dif : List (Nat × Nat) → Nat → Int
  | [], _ => 0
  | x :: l, j => one x j + dif l j
/-- The running sum ahead of k. -/
def sum (l : List (Nat × Nat)) : Nat → Int
  | 0 => 0
  | k + 1 => sum l k + dif l k
/-- How many ranges hold v. -/
def cnt : List (Nat × Nat) → Nat → Int
  | [], _ => 0
  | x :: l, v => (if inR v x then 1 else 0) + cnt l v

theorem one_bd (x : Nat × Nat) (j : Nat) : -1 ≤ one x j ∧ one x j ≤ 1 := by
  unfold one; split <;> split <;> omega
theorem dif_bd (l : List (Nat × Nat)) (j : Nat) : -(l.length : Int) ≤ dif l j ∧ dif l j ≤ l.length := by
  induction l with
  | nil => simp [dif]
  | cons x l ih =>
    have := one_bd x j
    simp only [dif, List.length_cons]
    omega
theorem dif_append (l m : List (Nat × Nat)) (j : Nat) : dif (l ++ m) j = dif l j + dif m j := by
  induction l with
  | nil => simp [dif]
  | cons x l ih => simp only [List.cons_append, dif, ih]; omega
theorem dif_snoc (l : List (Nat × Nat)) (x : Nat × Nat) (j : Nat) : dif (l ++ [x]) j = dif l j + one x j := by
  rw [dif_append]; simp [dif]

theorem sum_cons (x : Nat × Nat) (l : List (Nat × Nat)) (h : x.1 ≤ x.2) (k : Nat) : sum (x :: l) k = ((if x.1 < k then 1 else 0) - (if x.2 + 1 < k then 1 else 0)) + sum l k := by
  induction k with
  | zero => simp [sum]
  | succ k ih =>
    rw [sum, ih]
    show _ + (one x k + dif l k) = _ + (sum l k + dif l k)
    unfold one
    by_cases h1 : x.1 < k <;> by_cases h2 : x.2 + 1 < k <;> by_cases h3 : x.1 = k <;> by_cases h4 : x.2 + 1 = k <;>
      by_cases h5 : x.1 < k + 1 <;> by_cases h6 : x.2 + 1 < k + 1 <;> simp only [h1, h2, h3, h4, h5, h6, if_true, if_false] <;> omega

theorem sum_nil (k : Nat) : sum [] k = 0 := by
  induction k with
  | zero => rfl
  | succ k ih => rw [sum, ih]; rfl

theorem sum_cnt (l : List (Nat × Nat)) (h : ∀ x ∈ l, x.1 ≤ x.2) (v : Nat) : sum l (v + 1) = cnt l v := by
  induction l with
  | nil => rw [sum_nil]; rfl
  | cons x l ih =>
    rw [sum_cons x l (h x (by simp)) (v + 1), ih (fun y hy => h y (by simp [hy]))]
    have hx := h x (by simp)
    simp only [cnt, inR]
    by_cases h1 : x.1 ≤ v <;> by_cases h2 : v ≤ x.2
    · have a1 : x.1 < v + 1 := by omega
      have a2 : ¬ x.2 + 1 < v + 1 := by omega
      simp [h1, h2, a1, a2]
    · have a1 : x.1 < v + 1 := by omega
      have a2 : x.2 + 1 < v + 1 := by omega
      simp [h1, h2, a1, a2]
    · have a1 : ¬ x.1 < v + 1 := by omega
      have a2 : ¬ x.2 + 1 < v + 1 := by omega
      simp [h1, h2, a1, a2]
    · omega

theorem cnt_bd (l : List (Nat × Nat)) (v : Nat) : 0 ≤ cnt l v ∧ cnt l v ≤ l.length := by
  induction l with
  | nil => simp [cnt]
  | cons x l ih =>
    simp only [cnt, List.length_cons]
    split <;> omega
theorem cnt_cov (l : List (Nat × Nat)) (v : Nat) : decide (0 < cnt l v) = cov l v := by
  induction l with
  | nil => rfl
  | cons x l ih =>
    have hb := cnt_bd l v
    have e : cov (x :: l) v = (inR v x || cov l v) := by simp [cov]
    rw [e, ← ih]
    simp only [cnt]
    by_cases hx : inR v x = true
    · simp [hx]; omega
    · simp [hx]
theorem sum_bd (l : List (Nat × Nat)) (h : ∀ x ∈ l, x.1 ≤ x.2) (v : Nat) : 0 ≤ sum l v ∧ sum l v ≤ l.length := by
  cases v with
  | zero => exact ⟨Int.le_refl 0, by show (0 : Int) ≤ _; omega⟩
  | succ v => rw [sum_cnt l h v]; exact cnt_bd l v

/-- Every item is a range, and there are no more items than bytes. -/
theorem all_ok (s : ByteArray) (n : Nat) : ∀ i, s.size - i ≤ n → (∀ x ∈ all s i, x.1 ≤ x.2) ∧ (all s i).length ≤ s.size - i := by
  induction n with
  | zero => intro i h; rw [all_end s i (by omega)]; simp
  | succ n ih =>
    intro i h
    by_cases g : i < s.size ∧ bt s i ≠ 93
    · have h1 := wid_pos s i
      have h2 := wid_le s i g.1
      obtain ⟨a, b⟩ := ih (i + wid s i) (by omega)
      rw [all_go s i g.1 g.2]
      refine ⟨fun x hx => ?_, ?_⟩
      · rcases List.mem_cons.1 hx with rfl | hx
        · exact itm_le s i
        · exact a x hx
      · simp only [List.length_cons]; omega
    · rw [all_end s i g]; simp

end Go.Proofs.Qxb6603747a.Pl
