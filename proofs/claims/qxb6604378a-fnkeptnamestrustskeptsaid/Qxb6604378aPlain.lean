/-
  THE PLAIN LAW of the machine: it answers true exactly at the names that were not given before.
-/
import Derived.Test.Qxb6604378aHelp
import Derived.Sort.Walk0
namespace Go.Proofs.Qxb6604378a
open Go.RowKit Go.Maps
set_option linter.unusedVariables false
set_option linter.unusedSimpArgs false

theorem le_iff (a b : ByteArray) : le a b = true ↔ ¬ b.toList < a.toList := by
  unfold le
  rw [bytesLess_eq, Bool.or_eq_true, decide_eq_true_iff, beq_iff_eq]
  constructor
  · rintro (h | h)
    · exact fun h2 => List.lt_irrefl _ (List.lt_trans h h2)
    · rw [h]; exact List.lt_irrefl _
  · intro h
    by_cases h2 : a.toList < b.toList
    · exact Or.inl h2
    · exact Or.inr (List.le_antisymm (List.not_lt.1 h) (List.not_lt.1 h2))
theorem le_not (a b : ByteArray) : le a b = false ↔ b.toList < a.toList := by
  rw [← Bool.not_eq_true, le_iff, Classical.not_not]
theorem le_step {x last name : ByteArray} (h1 : le x last = true) (h2 : le name last = false) : le x name = true := by
  rw [le_iff] at *
  rw [le_not] at h2
  intro h
  exact h1 (List.lt_trans h2 h)
theorem le_self (x : ByteArray) : le x x = true := by rw [le_iff]; exact List.lt_irrefl _
theorem le_same {x y z : ByteArray} (h : (x.toList == y.toList) = true) : le x z = le y z := by
  unfold le; rw [beq_iff_eq.1 h]

/-- The names that were new, in order. -/
def fs (σ : Nat → ByteArray) : Nat → List ByteArray
  | 0 => []
  | k + 1 => if nw σ k then fs σ k ++ [σ k] else fs σ k

theorem inFew_succ (σ : Nat → ByteArray) (k : Nat) (x : ByteArray) : inFew σ (k + 1) x = (inFew σ k x || (σ k).toList == x.toList) := by
  unfold inFew; rw [List.range_succ, List.any_append]; simp
theorem mem_snoc (S : List ByteArray) (y x : ByteArray) : mem (S ++ [y]) x = (mem S x || y.toList == x.toList) := by
  unfold mem; rw [List.any_append]; simp
theorem inFew_same (σ : Nat → ByteArray) (k : Nat) {x y : ByteArray} (h : (x.toList == y.toList) = true) : inFew σ k x = inFew σ k y := by
  unfold inFew; rw [beq_iff_eq.1 h]

theorem mem_fs (σ : Nat → ByteArray) (x : ByteArray) : ∀ k, mem (fs σ k) x = inFew σ k x
  | 0 => by simp [fs, mem, inFew]
  | k + 1 => by
    have ih := mem_fs σ x k
    rw [inFew_succ]
    unfold fs
    split
    · rw [mem_snoc, ih]
    · rename_i h
      rw [ih]
      have h' : inFew σ k (σ k) = true := by unfold nw at h; simpa using h
      cases hx : (σ k).toList == x.toList with
      | false => simp
      | true => rw [inFew_same σ k hx] at h'; simp [h']
theorem fs_len (σ : Nat → ByteArray) : ∀ k, (fs σ k).length ≤ k
  | 0 => by simp [fs]
  | k + 1 => by
    have := fs_len σ k
    unfold fs
    split
    · simp; omega
    · omega
theorem fs_pre (σ : Nat → ByteArray) (k : Nat) : ∀ d, fs σ k <+: fs σ (k + d)
  | 0 => List.prefix_refl _
  | d + 1 => by
    refine (fs_pre σ k d).trans ?_
    show fs σ (k + d) <+: fs σ (k + d + 1)
    rw [fs]
    split
    · exact List.prefix_append _ _
    · exact List.prefix_refl _

/-- The state after k names. -/
def runS (kp : Option (List ByteArray)) (σ : Nat → ByteArray) : Nat → (List ByteArray × Bool) ⊕ List ByteArray
  | 0 => .inl ([], false)
  | k + 1 => addS kp (runS kp σ k) (σ k)

/-- What is so after k names. -/
def Good (σ : Nat → ByteArray) (k : Nat) (st : (List ByteArray × Bool) ⊕ List ByteArray) : Prop := match st with
  | .inl (L, un) => L = fs σ k ∧ (un = false → ∀ x ∈ L, le x (L.getLastD E) = true)
  | .inr S => (∀ x, mem S x = inFew σ k x) ∧ S.length ≤ k

theorem last_of {L : List ByteArray} (h : L.length = 0) : L = [] := List.eq_nil_of_length_eq_zero h

/-- Behind a name that is greater than the last, all are at most the last. -/
theorem grow_le {L : List ByteArray} {un : Bool} {name : ByteArray} (h : un = false → ∀ x ∈ L, le x (L.getLastD E) = true) (hu : un1 un L.length name (L.getLastD E) = false) : ∀ x ∈ L ++ [name], le x ((L ++ [name]).getLastD E) = true := by
  rw [last_snoc]
  unfold un1 at hu
  rw [Bool.or_eq_false_iff] at hu
  obtain ⟨h1, h2⟩ := hu
  intro x hx
  rcases List.mem_append.1 hx with hx | hx
  · have h0 : 0 < L.length := List.length_pos_of_mem hx
    have h3 : le name (L.getLastD E) = false := by simpa [h0] using h2
    exact le_step (h h1 x hx) h3
  · rw [List.mem_singleton.1 hx]; exact le_self _
/-- Such a name is new. -/
theorem new_of_le {L : List ByteArray} {un : Bool} {name : ByteArray} (h : un = false → ∀ x ∈ L, le x (L.getLastD E) = true) (hu : un1 un L.length name (L.getLastD E) = false) : mem L name = false := by
  unfold un1 at hu
  rw [Bool.or_eq_false_iff] at hu
  obtain ⟨h1, h2⟩ := hu
  unfold mem
  rw [List.any_eq_false]
  intro x hx hxe
  have h0 : 0 < L.length := List.length_pos_of_mem hx
  have h3 : le name (L.getLastD E) = false := by simpa [h0] using h2
  rw [← le_same hxe, h h1 x hx] at h3
  cases h3

theorem good_step (kp : Option (List ByteArray)) (σ : Nat → ByteArray) (k : Nat) (st : (List ByteArray × Bool) ⊕ List ByteArray) (h : Good σ k st)
    (hi : ∀ L un, st = .inl (L, un) → 8 ≤ L.length → idx kp L = L) : addR kp st (σ k) = nw σ k ∧ Good σ (k + 1) (addS kp st (σ k)) := by
  cases st with
  | inr S =>
    obtain ⟨h1, h2⟩ := h
    refine ⟨by simp only [addR, nw]; rw [h1], ?_, by simp; omega⟩
    intro x
    rw [mem_snoc, h1, inFew_succ]
  | inl q =>
    obtain ⟨L, un⟩ := q
    obtain ⟨rfl, hle⟩ := h
    have hm : mem (fs σ k) (σ k) = inFew σ k (σ k) := mem_fs σ _ k
    by_cases h8 : (fs σ k).length < 8
    · refine ⟨by simp only [addR]; rw [if_pos h8, hm]; rfl, ?_⟩
      simp only [addS]
      rw [if_pos h8, hm]
      cases hf : inFew σ k (σ k) with
      | true =>
        have e : fs σ (k + 1) = fs σ k := by rw [fs, if_neg (by simp [nw, hf])]
        simp only [if_true]
        exact ⟨e.symm, fun hu => hle (by unfold un1 at hu; rw [Bool.or_eq_false_iff] at hu; exact hu.1)⟩
      | false =>
        have e : fs σ (k + 1) = fs σ k ++ [σ k] := by rw [fs, if_pos (by simp [nw, hf])]
        simp only [Bool.false_eq_true, if_false]
        exact ⟨e.symm, fun hu => grow_le hle hu⟩
    · have hx := hi _ _ rfl (by omega)
      cases hu : un1 un (fs σ k).length (σ k) ((fs σ k).getLastD E) with
      | false =>
        have hn := new_of_le hle hu
        rw [hm] at hn
        have e : fs σ (k + 1) = fs σ k ++ [σ k] := by rw [fs, if_pos (by simp [nw, hn])]
        refine ⟨by simp only [addR]; rw [if_neg h8, if_pos hu]; simp [nw, hn], ?_⟩
        simp only [addS]
        rw [if_neg h8, if_pos hu]
        exact ⟨e.symm, fun _ => grow_le hle hu⟩
      | true =>
        refine ⟨by simp only [addR]; rw [if_neg h8, if_neg (by rw [hu]; simp), hx, hm]; rfl, ?_⟩
        simp only [addS]
        rw [if_neg h8, if_neg (by rw [hu]; simp), hx]
        exact ⟨fun x => by rw [mem_snoc, mem_fs, inFew_succ], by have := fs_len σ k; simp; omega⟩

/-- A teller that knows all that is new. -/
def Knows (kp : Option (List ByteArray)) (σ : Nat → ByteArray) (N : Nat) : Prop := kp = none ∨ kp = some (fs σ N)

theorem idx_same {kp : Option (List ByteArray)} {σ : Nat → ByteArray} {N k : Nat} (hK : Knows kp σ N) (hk : k ≤ N) : idx kp (fs σ k) = fs σ k := by
  rcases hK with rfl | rfl
  · simp [idx]
  · obtain ⟨d, rfl⟩ : ∃ d, N = k + d := ⟨N - k, by omega⟩
    have e := List.prefix_iff_eq_take.1 (fs_pre σ k d)
    simp only [idx]
    rw [← e]
    simp

theorem good_run {kp : Option (List ByteArray)} {σ : Nat → ByteArray} {N : Nat} (hK : Knows kp σ N) : ∀ k, k ≤ N → Good σ k (runS kp σ k)
  | 0, _ => ⟨rfl, fun _ x hx => by cases hx⟩
  | k + 1, hk => by
    have ih := good_run hK k (by omega)
    refine (good_step kp σ k _ ih ?_).2
    intro L un e _
    rw [e] at ih
    obtain ⟨rfl, _⟩ := ih
    exact idx_same hK (by omega)

theorem run_says {kp : Option (List ByteArray)} {σ : Nat → ByteArray} {N : Nat} (hK : Knows kp σ N) (k : Nat) (hk : k ≤ N) : addR kp (runS kp σ k) (σ k) = nw σ k := by
  have ih := good_run hK k hk
  refine (good_step kp σ k _ ih ?_).1
  intro L un e _
  rw [e] at ih
  obtain ⟨rfl, _⟩ := ih
  exact idx_same hK hk
theorem run_fits {kp : Option (List ByteArray)} {σ : Nat → ByteArray} {N : Nat} (hK : Knows kp σ N) (k : Nat) (hk : k ≤ N) (hN : N ≤ 8192) : Fits (runS kp σ k) := by
  have ih := good_run hK k hk
  cases e : runS kp σ k with
  | inl q => obtain ⟨L, un⟩ := q; rw [e] at ih; obtain ⟨rfl, _⟩ := ih; have := fs_len σ k; show _ ≤ 8192; omega
  | inr S => rw [e] at ih; have := ih.2; show _ ≤ 100000; omega
theorem run_enough {kp : Option (List ByteArray)} {σ : Nat → ByteArray} {N : Nat} (hK : Knows kp σ N) (k : Nat) (hk : k ≤ N) : Enough kp (runS kp σ k) := by
  have ih := good_run hK k hk
  rcases hK with rfl | rfl
  · cases runS none σ k <;> trivial
  · cases e : runS (some (fs σ N)) σ k with
    | inl q =>
      obtain ⟨L, un⟩ := q; rw [e] at ih; obtain ⟨rfl, _⟩ := ih
      obtain ⟨d, rfl⟩ : ∃ d, N = k + d := ⟨N - k, by omega⟩
      exact (fs_pre σ k d).length_le
    | inr S => trivial

/-- The names, and then once more. -/
def twice (ns : Nat → ByteArray) (len : Nat) : Nat → ByteArray := fun i => if i < len then ns i else ns (i - len)

theorem inFew_congr {f g : Nat → ByteArray} {n : Nat} (x : ByteArray) (h : ∀ i, i < n → f i = g i) : inFew f n x = inFew g n x := by
  rw [Bool.eq_iff_iff]
  unfold inFew
  rw [List.any_eq_true, List.any_eq_true]
  constructor
  · rintro ⟨i, hi, h2⟩; exact ⟨i, hi, by rw [← h i (List.mem_range.1 hi)]; exact h2⟩
  · rintro ⟨i, hi, h2⟩; exact ⟨i, hi, by rw [h i (List.mem_range.1 hi)]; exact h2⟩
theorem twice_one (ns : Nat → ByteArray) (len k : Nat) (hk : k < len) : nw (twice ns len) k = nw ns k := by
  unfold nw
  have e : twice ns len k = ns k := by unfold twice; rw [if_pos hk]
  rw [e, inFew_congr (g := ns) _ (fun i hi => by unfold twice; rw [if_pos (by omega)])]
theorem twice_two (ns : Nat → ByteArray) (len k : Nat) (hk : k < len) : nw (twice ns len) (len + k) = false := by
  unfold nw
  have e : twice ns len (len + k) = twice ns len k := by
    unfold twice; rw [if_neg (by omega), if_pos hk, Nat.add_sub_cancel_left]
  rw [inFew_yes k (by omega) (by rw [e]; simp)]; rfl
theorem fs_congr {f g : Nat → ByteArray} : ∀ n, (∀ i, i < n → f i = g i) → fs f n = fs g n
  | 0, _ => rfl
  | n + 1, h => by
    have e : nw f n = nw g n := by unfold nw; rw [h n (by omega), inFew_congr (g := g) _ (fun i hi => h i (by omega))]
    rw [fs, fs, e, fs_congr n (fun i hi => h i (by omega)), h n (by omega)]
theorem fs_twice (ns : Nat → ByteArray) (len : Nat) : ∀ d, d ≤ len → fs (twice ns len) (len + d) = fs ns len
  | 0, _ => fs_congr len (fun i hi => by unfold twice; rw [if_pos hi])
  | d + 1, h => by
    show fs (twice ns len) (len + d + 1) = _
    rw [fs, twice_two ns len d (by omega)]
    exact fs_twice ns len d (by omega)
end Go.Proofs.Qxb6604378a
