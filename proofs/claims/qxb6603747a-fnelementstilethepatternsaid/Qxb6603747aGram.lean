/-
  PLAIN: the grammar of a set, read by indices. No Go in sight.
-/
import Derived.Test.Qxb6603747aBits
namespace Go.Proofs.Qxb6603747a.Pl

/-- The byte at i (0 behind the end). -/
def bt (s : ByteArray) (i : Nat) : Nat := if h : i < s.size then (s[i]'h).toNat else 0

theorem bt_eq (s : ByteArray) (i : Nat) (h : i < s.size) : (s[i]'h).toNat = bt s i := by simp [bt, h]

theorem bt_lt (s : ByteArray) (i : Nat) : bt s i < 256 := by
  unfold bt
  split
  · exact UInt8.toNat_lt _
  · decide

/-- How many bytes the item at i takes. -/
def wid (s : ByteArray) (i : Nat) : Nat := if bt s i = 92 ∧ i + 1 < s.size then 2 else if i + 2 < s.size ∧ bt s (i + 1) = 45 then 3 else 1

/-- The range of byte values that the item at i lays. -/
def itm (s : ByteArray) (i : Nat) : Nat × Nat :=
  if bt s i = 92 ∧ i + 1 < s.size then (bt s (i + 1), bt s (i + 1))
  else if i + 2 < s.size ∧ bt s (i + 1) = 45 then (min (bt s i) (bt s (i + 2)), max (bt s i) (bt s (i + 2)))
  else (bt s i, bt s i)

theorem wid_pos (s : ByteArray) (i : Nat) : 1 ≤ wid s i := by unfold wid; (repeat' split) <;> omega
theorem wid_le (s : ByteArray) (i : Nat) (h : i < s.size) : i + wid s i ≤ s.size := by unfold wid; (repeat' split) <;> omega
theorem itm_le (s : ByteArray) (i : Nat) : (itm s i).1 ≤ (itm s i).2 := by unfold itm; (repeat' split) <;> simp <;> omega
theorem itm_lt (s : ByteArray) (i : Nat) : (itm s i).2 < 256 := by
  have h0 := bt_lt s i
  have h1 := bt_lt s (i + 1)
  have h2 := bt_lt s (i + 2)
  unfold itm; (repeat' split) <;> simp <;> omega

/-- The items from i on, up to the ] or the end. -/
def its (s : ByteArray) : Nat → Nat → List (Nat × Nat)
  | 0, _ => []
  | f + 1, i => if i < s.size ∧ bt s i ≠ 93 then itm s i :: its s f (i + wid s i) else []

/-- Where they end. -/
def fin (s : ByteArray) : Nat → Nat → Nat
  | 0, i => i
  | f + 1, i => if i < s.size ∧ bt s i ≠ 93 then fin s f (i + wid s i) else i

theorem its_succ (s : ByteArray) (f i : Nat) : its s (f + 1) i = if i < s.size ∧ bt s i ≠ 93 then itm s i :: its s f (i + wid s i) else [] := rfl
theorem fin_succ (s : ByteArray) (f i : Nat) : fin s (f + 1) i = if i < s.size ∧ bt s i ≠ 93 then fin s f (i + wid s i) else i := rfl

theorem its_more (s : ByteArray) (f : Nat) : ∀ i, s.size ≤ f + i → its s (f + 1) i = its s f i := by
  induction f with
  | zero => intro i h; rw [its_succ, if_neg (by omega)]; rfl
  | succ f ih =>
    intro i h
    rw [its_succ s (f + 1) i, its_succ s f i]
    split
    · have := wid_pos s i
      rw [ih _ (by omega)]
    · rfl

theorem fin_more (s : ByteArray) (f : Nat) : ∀ i, s.size ≤ f + i → fin s (f + 1) i = fin s f i := by
  induction f with
  | zero => intro i h; rw [fin_succ, if_neg (by omega)]; rfl
  | succ f ih =>
    intro i h
    rw [fin_succ s (f + 1) i, fin_succ s f i]
    split
    · have := wid_pos s i
      rw [ih _ (by omega)]
    · rfl

/-- The items and the end, with enough fuel. -/
def all (s : ByteArray) (i : Nat) : List (Nat × Nat) := its s s.size i
def stop (s : ByteArray) (i : Nat) : Nat := fin s s.size i

theorem its_fuel (s : ByteArray) (i f g : Nat) (h : s.size ≤ f + i) : its s (f + g) i = its s f i := by
  induction g with
  | zero => rfl
  | succ g ih => rw [← Nat.add_assoc, its_more s _ i (by omega), ih]
theorem fin_fuel (s : ByteArray) (i f g : Nat) (h : s.size ≤ f + i) : fin s (f + g) i = fin s f i := by
  induction g with
  | zero => rfl
  | succ g ih => rw [← Nat.add_assoc, fin_more s _ i (by omega), ih]

theorem all_go (s : ByteArray) (i : Nat) (h : i < s.size) (h' : bt s i ≠ 93) : all s i = itm s i :: all s (i + wid s i) := by
  have hw := wid_pos s i
  obtain ⟨n, hn⟩ : ∃ n, s.size = n + 1 := ⟨s.size - 1, by omega⟩
  unfold all
  rw [← its_fuel s i s.size 1 (by omega), its_succ, if_pos ⟨h, h'⟩]
theorem stop_go (s : ByteArray) (i : Nat) (h : i < s.size) (h' : bt s i ≠ 93) : stop s i = stop s (i + wid s i) := by
  have hw := wid_pos s i
  unfold stop
  rw [← fin_fuel s i s.size 1 (by omega), fin_succ, if_pos ⟨h, h'⟩]
theorem all_end (s : ByteArray) (i : Nat) (h : ¬ (i < s.size ∧ bt s i ≠ 93)) : all s i = [] := by
  unfold all
  rw [← its_fuel s i s.size 1 (by omega), its_succ, if_neg h]
theorem stop_end (s : ByteArray) (i : Nat) (h : ¬ (i < s.size ∧ bt s i ≠ 93)) : stop s i = i := by
  unfold stop
  rw [← fin_fuel s i s.size 1 (by omega), fin_succ, if_neg h]

theorem stop_le (s : ByteArray) (n : Nat) : ∀ i, s.size - i ≤ n → i ≤ s.size → i ≤ stop s i ∧ stop s i ≤ s.size := by
  induction n with
  | zero => intro i h h'; rw [stop_end s i (by omega)]; omega
  | succ n ih =>
    intro i h h'
    by_cases g : i < s.size ∧ bt s i ≠ 93
    · have h1 := wid_pos s i
      have h2 := wid_le s i g.1
      have := ih (i + wid s i) (by omega) h2
      rw [stop_go s i g.1 g.2]; omega
    · rw [stop_end s i g]; omega

/-- The value v is in one of the ranges. -/
def inR (v : Nat) (x : Nat × Nat) : Bool := decide (x.1 ≤ v) && decide (v ≤ x.2)
def cov (l : List (Nat × Nat)) : Nat → Bool := fun v => l.any (inR v)

theorem cov_nil : cov [] = fun _ => false := rfl
theorem cov_snoc (l : List (Nat × Nat)) (x : Nat × Nat) : cov (l ++ [x]) = fun v => cov l v || (decide (x.1 ≤ v) && decide (v ≤ x.2)) := by
  funext v; simp [cov, inR]

/-- Does the set at i open with a ^? -/
def neg (s : ByteArray) (i : Nat) : Bool := decide (i < s.size ∧ bt s i = 94)
/-- Where its items begin. -/
def beg (s : ByteArray) (i : Nat) : Nat := if i < s.size ∧ bt s i = 94 then i + 1 else i
/-- What set answers: the byte values, and where the set ends. -/
def setP (s : ByteArray) (i : Nat) : Nat → Bool := fun v => cov (all s (beg s i)) v != neg s i
def setN (s : ByteArray) (i : Nat) : Nat := if stop s (beg s i) < s.size then stop s (beg s i) + 1 else stop s (beg s i)

theorem beg_le (s : ByteArray) (i : Nat) (h : i ≤ s.size) : i ≤ beg s i ∧ beg s i ≤ s.size := by unfold beg; split <;> omega
theorem setN_le (s : ByteArray) (i : Nat) (h : i ≤ s.size) : i ≤ setN s i ∧ setN s i ≤ s.size := by
  have hb := beg_le s i h
  have := stop_le s (s.size - beg s i) (beg s i) (Nat.le_refl _) hb.2
  unfold setN; split <;> omega

end Go.Proofs.Qxb6603747a.Pl
