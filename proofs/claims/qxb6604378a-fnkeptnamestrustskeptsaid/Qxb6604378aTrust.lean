/-
  THE PLAIN LAW of a strictly increasing run, and of a teller that tells the first name again from the ninth on.
-/
import Derived.Test.Qxb6604378aUno
namespace Go.Proofs.Qxb6604378a
open Go.RowKit Go.Maps
set_option linter.unusedVariables false
set_option linter.unusedSimpArgs false

def lst (ns : Nat → ByteArray) (k : Nat) : List ByteArray := (List.range k).map ns
/-- What the teller tells. -/
def tl (ns : Nat → ByteArray) (i : Nat) : ByteArray := if i < 8 then ns i else ns 0
def told (ns : Nat → ByteArray) (len : Nat) : List ByteArray := (List.range len).map (tl ns)

/-- The names increase. -/
def Up (ns : Nat → ByteArray) (len : Nat) : Prop := ∀ i, i + 1 < len → Op.bytesLess (ns i).toList (ns (i + 1)).toList = true

theorem Up.lt {ns : Nat → ByteArray} {len : Nat} (h : Up ns len) (i : Nat) : ∀ d, i + d + 1 < len → (ns i).toList < (ns (i + d + 1)).toList
  | 0, hd => by have := h i hd; rw [bytesLess_eq] at this; exact of_decide_eq_true this
  | d + 1, hd => by
    have h1 := Up.lt h i d (by omega)
    have h2 := h (i + d + 1) (by omega)
    rw [bytesLess_eq] at h2
    exact List.lt_trans h1 (of_decide_eq_true h2)
theorem Up.lt' {ns : Nat → ByteArray} {len : Nat} (h : Up ns len) {i j : Nat} (hij : i < j) (hj : j < len) : (ns i).toList < (ns j).toList := by
  obtain ⟨d, rfl⟩ : ∃ d, j = i + d + 1 := ⟨j - i - 1, by omega⟩
  exact h.lt i d hj
theorem Up.nle {ns : Nat → ByteArray} {len : Nat} (h : Up ns len) {i j : Nat} (hij : i < j) (hj : j < len) : le (ns j) (ns i) = false := (le_not _ _).2 (h.lt' hij hj)
theorem Up.le {ns : Nat → ByteArray} {len : Nat} (h : Up ns len) {i j : Nat} (hij : i ≤ j) (hj : j < len) : le (ns i) (ns j) = true := by
  rw [le_iff]
  intro h2
  rcases Nat.lt_or_eq_of_le hij with h3 | rfl
  · exact List.lt_irrefl _ (List.lt_trans h2 (h.lt' h3 hj))
  · exact List.lt_irrefl _ h2
theorem Up.ne {ns : Nat → ByteArray} {len : Nat} (h : Up ns len) {i j : Nat} (hij : i ≠ j) (hi : i < len) (hj : j < len) : ((ns i).toList == (ns j).toList) = false := by
  rw [beq_eq_false_iff_ne]
  intro e
  rcases Nat.lt_or_gt_of_ne hij with h3 | h3
  · have := h.lt' h3 hj; rw [e] at this; exact List.lt_irrefl _ this
  · have := h.lt' h3 hi; rw [e] at this; exact List.lt_irrefl _ this

theorem lst_succ (ns : Nat → ByteArray) (k : Nat) : lst ns (k + 1) = lst ns k ++ [ns k] := by unfold lst; rw [List.range_succ, List.map_append]; rfl
theorem lst_len (ns : Nat → ByteArray) (k : Nat) : (lst ns k).length = k := by unfold lst; simp
theorem told_len (ns : Nat → ByteArray) (k : Nat) : (told ns k).length = k := by unfold told; simp
theorem told_get (ns : Nat → ByteArray) (len i : Nat) (h : i < len) : (told ns len).getD i E = tl ns i := by
  unfold told; rw [List.getD_eq_getElem?_getD]; simp [h]
theorem lst_take (ns : Nat → ByteArray) (k : Nat) (h : 8 ≤ k) : (lst ns k).take 8 = lst ns 8 := by
  unfold lst; rw [← List.map_take, List.take_range]; congr 2; omega

theorem mem_app (S T : List ByteArray) (x : ByteArray) : mem (S ++ T) x = (mem S x || mem T x) := by unfold mem; rw [List.any_append]
theorem mem_lst {ns : Nat → ByteArray} {len : Nat} (h : Up ns len) {m j : Nat} (hm : m ≤ len) (hj : j < len) : mem (lst ns m) (ns j) = decide (j < m) := by
  by_cases hlt : j < m
  · rw [decide_eq_true hlt]
    unfold mem lst
    rw [List.any_eq_true]
    exact ⟨ns j, List.mem_map.2 ⟨j, List.mem_range.2 hlt, rfl⟩, by simp⟩
  · rw [decide_eq_false hlt]
    unfold mem lst
    rw [List.any_eq_false]
    intro x hx
    obtain ⟨i, hi, rfl⟩ := List.mem_map.1 hx
    have hi' := List.mem_range.1 hi
    rw [h.ne (i := i) (j := j) (by omega) (by omega) hj]
    simp

theorem un_first {ns : Nat → ByteArray} {len : Nat} (h : Up ns len) {k : Nat} (hk : k < len) : un1 false (lst ns k).length (ns k) ((lst ns k).getLastD E) = false := by
  cases k with
  | zero => rfl
  | succ m =>
    rw [lst_len, lst_succ, last_snoc]
    unfold un1
    rw [h.nle (i := m) (j := m + 1) (by omega) hk]
    simp

/-- The first pass. -/
theorem pass_one {ns : Nat → ByteArray} {len : Nat} (h : Up ns len) (K : List ByteArray) {k : Nat} (hk : k < len) :
    addR (some K) (.inl (lst ns k, false)) (ns k) = true ∧ addS (some K) (.inl (lst ns k, false)) (ns k) = .inl (lst ns (k + 1), false) := by
  have hu := un_first h hk
  have hm : mem (lst ns k) (ns k) = false := by rw [mem_lst h (by omega) hk]; simp
  by_cases h8 : (lst ns k).length < 8
  · simp only [addR, addS]
    rw [if_pos h8, if_pos h8, hm, hu, lst_succ]
    simp
  · simp only [addR, addS]
    rw [if_neg h8, if_neg h8, if_pos hu, if_pos hu, lst_succ]
    simp

theorem un_second {ns : Nat → ByteArray} {len : Nat} (h : Up ns len) (u : Bool) {j : Nat} (hj : j < len) : un1 u (lst ns len).length (ns j) ((lst ns len).getLastD E) = true := by
  cases len with
  | zero => omega
  | succ m =>
    rw [lst_len, lst_succ, last_snoc]
    unfold un1
    rw [h.le (i := j) (j := m) (by omega) (by omega)]
    simp

def ix (ns : Nat → ByteArray) (len : Nat) : List ByteArray := idx (some (told ns len)) (lst ns len)

theorem mem_ix {ns : Nat → ByteArray} {len : Nat} (h : Up ns len) (h8 : 8 ≤ len) {j : Nat} (hj : j < len) : mem (ix ns len) (ns j) = decide (j < 8) := by
  unfold ix idx
  simp only [List.append_nil]
  rw [mem_app, lst_take ns len h8, mem_lst h h8 hj, lst_len, List.take_of_length_le (by rw [told_len]; exact Nat.le_refl _)]
  by_cases hlt : j < 8
  · simp [hlt]
  · rw [decide_eq_false hlt, Bool.false_or]
    unfold mem
    rw [List.any_eq_false]
    intro x hx
    obtain ⟨i, hi, rfl⟩ := List.getElem_of_mem hx
    have e : ((told ns len).drop 8)[i] = ns 0 := by
      rw [List.getElem_drop]
      unfold told
      rw [List.getElem_map, List.getElem_range]
      unfold tl
      rw [if_neg (by omega)]
    rw [e, h.ne (i := 0) (j := j) (by omega) (by omega) hj]
    simp
theorem ix_len (ns : Nat → ByteArray) (len : Nat) : (ix ns len).length ≤ 8 + len := by
  unfold ix idx
  simp only [List.append_nil, List.length_append, List.length_take, List.length_drop, lst_len, told_len]
  omega

/-- The state in the second pass. -/
def st2 (ns : Nat → ByteArray) (len j : Nat) : (List ByteArray × Bool) ⊕ List ByteArray :=
  if len < 8 then .inl (lst ns len, decide (0 < j)) else if j = 0 then .inl (lst ns len, false) else .inr (ix ns len ++ lst ns j)

theorem st2_zero (ns : Nat → ByteArray) (len : Nat) : st2 ns len 0 = .inl (lst ns len, false) := by unfold st2; simp

theorem pass_two {ns : Nat → ByteArray} {len : Nat} (h : Up ns len) {j : Nat} (hj : j < len) :
    addR (some (told ns len)) (st2 ns len j) (ns j) = decide (8 ≤ j) ∧ addS (some (told ns len)) (st2 ns len j) (ns j) = st2 ns len (j + 1) := by
  have hm : mem (lst ns len) (ns j) = true := by rw [mem_lst h (Nat.le_refl _) hj]; simp [hj]
  by_cases h8 : len < 8
  · have h8' : (lst ns len).length < 8 := by rw [lst_len]; exact h8
    unfold st2
    rw [if_pos h8, if_pos h8]
    simp only [addR, addS]
    rw [if_pos h8', if_pos h8', hm, un_second h _ hj]
    constructor
    · rw [decide_eq_false (by omega)]; rfl
    · simp
  · have h8' : ¬ (lst ns len).length < 8 := by rw [lst_len]; exact h8
    have hmi := mem_ix h (by omega) hj
    unfold st2
    rw [if_neg h8, if_neg h8, if_neg (by omega : ¬ j + 1 = 0)]
    by_cases h0 : j = 0
    · rw [if_pos h0]
      simp only [addR, addS]
      rw [if_neg h8', if_neg h8', if_neg (by rw [un_second h _ hj]; simp), if_neg (by rw [un_second h _ hj]; simp)]
      have e : idx (some (told ns len)) (lst ns len) = ix ns len := rfl
      rw [e, hmi, h0]
      exact ⟨by simp, rfl⟩
    · rw [if_neg h0]
      simp only [addR, addS]
      rw [mem_app, hmi, mem_lst h (by omega) hj, lst_succ]
      constructor
      · by_cases hlt : j < 8
        · simp [hlt]
        · simp [hlt]; omega
      · rw [List.append_assoc]

theorem st2_fits (ns : Nat → ByteArray) {len j : Nat} (hl : len ≤ 4096) (hj : j ≤ len) : Fits (st2 ns len j) := by
  unfold st2
  split
  · show (lst ns len).length ≤ 8192; rw [lst_len]; omega
  · split
    · show (lst ns len).length ≤ 8192; rw [lst_len]; omega
    · show (ix ns len ++ lst ns j).length ≤ 100000
      rw [List.length_append, lst_len]
      have := ix_len ns len
      omega
theorem st2_enough (ns : Nat → ByteArray) {len j : Nat} : Enough (some (told ns len)) (st2 ns len j) := by
  unfold st2
  split
  · show (lst ns len).length ≤ _; rw [lst_len, told_len]; exact Nat.le_refl _
  · split
    · show (lst ns len).length ≤ _; rw [lst_len, told_len]; exact Nat.le_refl _
    · trivial
theorem tl_sizes (ns : Nat → ByteArray) (h : ∀ i, (ns i).size ≤ maxLen) (len : Nat) : ∀ s ∈ told ns len, s.size ≤ maxLen := by
  intro s hs
  obtain ⟨i, _, rfl⟩ := List.mem_map.1 hs
  unfold tl
  split <;> exact h _
end Go.Proofs.Qxb6604378a
