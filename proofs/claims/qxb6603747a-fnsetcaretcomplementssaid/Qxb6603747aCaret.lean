/-
  PLAIN: one ^ more gives the complement.
-/
import Derived.Test.Qxb6603747aGram
namespace Go.Proofs.Qxb6603747a.Pl

/-- q is s with one byte 94 put in at i. -/
def Put (s q : ByteArray) (i : Nat) : Prop := q.size = s.size + 1 ∧ bt q i = 94 ∧ ∀ j, i ≤ j → bt q (j + 1) = bt s j

theorem put_wid {s q : ByteArray} {i : Nat} (h : Put s q i) (j : Nat) (hj : i ≤ j) : wid q (j + 1) = wid s j := by
  obtain ⟨h1, h2, h3⟩ := h
  unfold wid
  rw [h3 j hj, h3 (j + 1) (by omega), h1]
  have e1 : (j + 1 + 1 < s.size + 1) = (j + 1 < s.size) := by apply propext; omega
  have e2 : (j + 1 + 2 < s.size + 1) = (j + 2 < s.size) := by apply propext; omega
  simp only [e1, e2]
theorem put_itm {s q : ByteArray} {i : Nat} (h : Put s q i) (j : Nat) (hj : i ≤ j) : itm q (j + 1) = itm s j := by
  obtain ⟨h1, h2, h3⟩ := h
  unfold itm
  have h4 : bt q (j + 1 + 2) = bt s (j + 2) := h3 (j + 2) (by omega)
  rw [h3 j hj, h3 (j + 1) (by omega), h4, h1]
  have e1 : (j + 1 + 1 < s.size + 1) = (j + 1 < s.size) := by apply propext; omega
  have e2 : (j + 1 + 2 < s.size + 1) = (j + 2 < s.size) := by apply propext; omega
  simp only [e1, e2]
theorem put_all {s q : ByteArray} {i : Nat} (h : Put s q i) (n : Nat) : ∀ j, s.size - j ≤ n → i ≤ j → all q (j + 1) = all s j ∧ stop q (j + 1) = stop s j + 1 := by
  have h1 := h.1
  have h3 := h.2.2
  induction n with
  | zero =>
    intro j hj hij
    rw [all_end s j (by omega), all_end q (j + 1) (by omega), stop_end s j (by omega), stop_end q (j + 1) (by omega)]
    exact ⟨rfl, rfl⟩
  | succ n ih =>
    intro j hj hij
    by_cases g : j < s.size ∧ bt s j ≠ 93
    · have hw := wid_pos s j
      have hq : bt q (j + 1) ≠ 93 := by rw [h3 j hij]; exact g.2
      obtain ⟨i1, i2⟩ := ih (j + wid s j) (by omega) (by omega)
      rw [all_go s j g.1 g.2, stop_go s j g.1 g.2, all_go q (j + 1) (by omega) hq, stop_go q (j + 1) (by omega) hq, put_wid h j hij, put_itm h j hij]
      have e : j + 1 + wid s j = j + wid s j + 1 := by omega
      rw [e, i1, i2]
      exact ⟨rfl, rfl⟩
    · have hq : ¬ (j + 1 < q.size ∧ bt q (j + 1) ≠ 93) := by rw [h3 j hij, h1]; omega
      rw [all_end s j g, stop_end s j g, all_end q (j + 1) hq, stop_end q (j + 1) hq]
      exact ⟨rfl, rfl⟩

theorem put_set {s q : ByteArray} {i : Nat} (h : Put s q i) (hi : i ≤ s.size) (hn : ¬ (i < s.size ∧ bt s i = 94)) : setP q i = (fun v => !setP s i v) ∧ setN q i = setN s i + 1 := by
  have h1 := h.1
  have hq : i < q.size ∧ bt q i = 94 := ⟨by omega, h.2.1⟩
  have b1 : beg s i = i := by unfold beg; rw [if_neg hn]
  have b2 : beg q i = i + 1 := by unfold beg; rw [if_pos hq]
  have n1 : neg s i = false := by unfold neg; exact decide_eq_false hn
  have n2 : neg q i = true := by unfold neg; exact decide_eq_true hq
  obtain ⟨a1, a2⟩ := put_all h (s.size - i) i (Nat.le_refl _) (Nat.le_refl _)
  constructor
  · funext v
    unfold setP
    rw [b1, b2, n1, n2, a1]
    simp
  · unfold setN
    rw [b1, b2, a2, h1]
    split <;> split <;> omega

theorem put_word {s q : ByteArray} {i : Nat} (h : Put s q i) (hi : i ≤ s.size) (hn : ¬ (i < s.size ∧ bt s i = 94)) (k : Nat) : word (setP q i) k = 18446744073709551615 ^^^ word (setP s i) k := by
  rw [(put_set h hi hn).1, word_not]

theorem bt_get (s : ByteArray) (j : Nat) : bt s j = (s.data[j]?.getD 0).toNat := by
  unfold bt
  split
  · rename_i h
    have h' : j < s.data.size := h
    rw [Array.getElem?_eq_getElem h']
    rfl
  · rename_i h
    have h' : ¬ j < s.data.size := h
    rw [Array.getElem?_eq_none (by omega)]
    rfl

theorem put_made (s : ByteArray) (i : Nat) (hi : i ≤ s.size) : Put s (s.extract 0 i ++ { data := #[94] } ++ s.extract i s.size) i := by
  have hs : s.data.size = s.size := rfl
  have hd : (s.extract 0 i ++ { data := #[94] } ++ s.extract i s.size).data = s.data.extract 0 i ++ #[94] ++ s.data.extract i s.size := by
    simp
  refine ⟨?_, ?_, ?_⟩
  · show (s.extract 0 i ++ { data := #[94] } ++ s.extract i s.size).data.size = _
    rw [hd]
    simp
    omega
  · rw [bt_get, hd]
    have : (s.data.extract 0 i ++ #[94] ++ s.data.extract i s.size)[i]? = some 94 := by
      have e0 : (s.data.extract 0 i).size = i := by rw [Array.size_extract, hs]; omega
      rw [Array.getElem?_append_left (by rw [Array.size_append, e0]; simp), Array.getElem?_append_right (by omega), e0, Nat.sub_self]
      rfl
    rw [this]; rfl
  · intro j hj
    rw [bt_get, bt_get, hd]
    have : (s.data.extract 0 i ++ #[94] ++ s.data.extract i s.size)[j + 1]? = s.data[j]? := by
      rw [Array.getElem?_append_right (by simp [hs]; omega)]
      simp only [Array.size_append, Array.size_extract, hs, List.size_toArray, List.length_singleton]
      rw [Array.getElem?_extract]
      have e : j + 1 - (min i s.size - 0 + 1) = j - i := by omega
      rw [e]
      by_cases h : j - i < min s.size s.data.size - i
      · rw [if_pos h]; congr 1; omega
      · rw [if_neg h, Array.getElem?_eq_none (by omega)]
    rw [this]

end Go.Proofs.Qxb6603747a.Pl
