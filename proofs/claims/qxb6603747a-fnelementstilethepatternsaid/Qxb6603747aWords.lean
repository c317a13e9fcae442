/-
  THE WALKS of add and addRange (of glob): a block of four words is a set of byte values.
-/
import Derived.Test.Qxb6603747aRows
import Derived.Test.Qxb6603747aBits
import Derived.WalkKit
import Derived.WalkLawsBesides
import Derived.Laws.BitsAllLaws
namespace Go.Proofs.Qxb6603747a
open Go.RowKit

/-- The word k of the set p, as a cell. -/
def wv (p : Nat → Bool) (k : Nat) : Value := .int .u64 (Pl.word p k : Nat)

/-- Block B of the world holds the set p, four words, none of them frozen. -/
def Cls (w : World) (B T : Nat) (p : Nat → Bool) : Prop := w.heap[B]? = some (.cells #[wv p 0, wv p 1, wv p 2, wv p 3] T (0, 0))

theorem Cls.cell {w : World} {B T : Nat} {p : Nat → Bool} (h : Cls w B T p) (k : Nat) (hk : k < 4) : w.cell? ⟨B, k, none⟩ = some (.int .u64 (Pl.word p k : Nat)) := by
  unfold Cls at h
  simp only [World.cell?, h]
  match k, hk with
  | 0, _ => rfl
  | 1, _ => rfl
  | 2, _ => rfl
  | 3, _ => rfl

theorem Cls.free {w : World} {B T : Nat} {p : Nat → Bool} (h : Cls w B T p) (k : Nat) : w.frozen? ⟨B, k, none⟩ = false := by
  unfold Cls at h
  simp [World.frozen?, h]

theorem Cls.lt {w : World} {B T : Nat} {p : Nat → Bool} (h : Cls w B T p) : B < w.heap.size := lt_of_block h

theorem heap_setCell_here {w : World} {B T : Nat} {cs : Array Value} (h : w.heap[B]? = some (.cells cs T (0, 0))) (k : Nat) (v : Value) :
    (w.setCell ⟨B, k, none⟩ v).heap[B]? = some (.cells (cs.setIfInBounds k v) T (0, 0)) := by
  have hlt := lt_of_block h
  have h' : w.heap[B] = .cells cs T (0, 0) := by simpa [Array.getElem?_eq_getElem hlt] using h
  show (w.heap.modify B _)[B]? = _
  rw [Array.getElem?_eq_getElem (by simpa using hlt), Array.getElem_modify_self, h']
  rfl

/-- One word is stored: the set turns in that word alone. -/
theorem Cls.store {w : World} {B T : Nat} {p q : Nat → Bool} (h : Cls w B T p) (k : Nat) (hk : k < 4) (ho : ∀ j, j < 4 → j ≠ k → Pl.word q j = Pl.word p j) (x : Int) (hx : x = (Pl.word q k : Nat)) :
    Cls (w.setCell ⟨B, k, none⟩ (.int .u64 x)) B T q := by
  unfold Cls at h ⊢
  rw [heap_setCell_here h]
  subst hx
  match k, hk with
  | 0, _ => simp [wv, ho 1 (by omega) (by omega), ho 2 (by omega) (by omega), ho 3 (by omega) (by omega)]
  | 1, _ => simp [wv, ho 0 (by omega) (by omega), ho 2 (by omega) (by omega), ho 3 (by omega) (by omega)]
  | 2, _ => simp [wv, ho 0 (by omega) (by omega), ho 1 (by omega) (by omega), ho 3 (by omega) (by omega)]
  | 3, _ => simp [wv, ho 0 (by omega) (by omega), ho 1 (by omega) (by omega), ho 2 (by omega) (by omega)]

theorem Cls.drew {w : World} {B T : Nat} {p : Nat → Bool} (h : Cls w B T p) : Cls w.drew B T p := h

theorem pow_wrap (e : Nat) (he : e < 64) : IntKind.u64.wrap (2 ^ e) = ((2 ^ e : Nat) : Int) := by
  have h : 2 ^ e < 2 ^ 64 := Nat.pow_lt_pow_right (by decide) he
  have e1 : (2 : Int) ^ e = ((2 ^ e : Nat) : Int) := by simp
  rw [IntKind.wrap_u64, e1]
  generalize 2 ^ e = x at h
  omega

theorem or_word (p : Nat → Bool) (b : Nat) : bits .or .u64 (Pl.word p (b / 64) : Nat) (IntKind.u64.wrap (2 ^ (b % 64))) = (Pl.word (fun v => p v || v == b) (b / 64) : Nat) := by
  have hm : b % 64 < 64 := Nat.mod_lt _ (by decide)
  have : 2 ^ (b % 64) < 2 ^ 64 := Nat.pow_lt_pow_right (by decide) hm
  rw [pow_wrap _ hm, u64_or_nat _ _ (Pl.word_lt _ _) (by omega), Pl.word_or, Pl.word_one, if_pos rfl]

theorem one_else (p : Nat → Bool) (b j : Nat) (h : j ≠ b / 64) : Pl.word (fun v => p v || v == b) j = Pl.word p j := by
  rw [Pl.word_or, Pl.word_one, if_neg h, Nat.or_zero]

/-- add. -/
theorem add_any (B T b : Nat) (p : Nat → Bool) (hb : b < 256) (w : World) (hc : Cls w B T p) :
    Calls Try.prog 22 #[.pointer (some ⟨B, 0, none⟩), .int .u8 (b : Int)] w fun e w' => e = .returned (.tuple #[]) ∧ Cls w' B T (fun v => p v || v == b) ∧ Below B w w' ∧ w'.heap.size = w.heap.size := by
  have hcell := hc.cell (b / 64) (by omega)
  have hfr := hc.free (b / 64)
  have hs := hc.store (q := fun v => p v || v == b) (b / 64) (by omega) (fun j _ h => one_else p b j h) _ (or_word p b)
  have HS : Hid (Cls (w.setCell ⟨B, b / 64, none⟩ (.int .u64 (bits .or .u64 (Pl.word p (b / 64) : Nat) (IntKind.u64.wrap (2 ^ (b % 64)))))) B T (fun v => p v || v == b)) := hs
  clear hs hc
  go_enter Try.func22, Try.ntmps22
  go_wp2
  go_region
  all_goals
    go_end0
    exact ⟨rfl, HS.out, ((Below.refl B w).setCell (p := ⟨B, b / 64, none⟩) (Nat.le_refl B) _).drew, by simp⟩

/-- What addRange has laid when it comes to word k. -/
def upto (p : Nat → Bool) (lo hi k : Nat) : Nat → Bool := fun v => p v || (decide (lo ≤ v) && decide (v ≤ hi) && decide (v / 64 < k))

theorem upto_at (p : Nat → Bool) (lo hi k : Nat) : Pl.word (upto p lo hi k) k = Pl.word p k := by
  apply Pl.word_congr
  intro j hj
  have : ¬ (64 * k + j) / 64 < k := by omega
  simp [upto, this]

theorem upto_next (p : Nat → Bool) (lo hi k : Nat) : Pl.word (upto p lo hi (k + 1)) k = Pl.word p k ||| Pl.word (fun v => decide (lo ≤ v) && decide (v ≤ hi)) k := by
  rw [← Pl.word_or]
  apply Pl.word_congr
  intro j hj
  have : (64 * k + j) / 64 < k + 1 := by omega
  simp [upto, this]

theorem upto_else (p : Nat → Bool) (lo hi k j : Nat) (h : j ≠ k) : Pl.word (upto p lo hi (k + 1)) j = Pl.word (upto p lo hi k) j := by
  apply Pl.word_congr
  intro i hi'
  have : decide ((64 * j + i) / 64 < k + 1) = decide ((64 * j + i) / 64 < k) := by
    rw [decide_eq_decide]; omega
  simp only [upto, this]

theorem rng_word (p : Nat → Bool) (lo hi k : Nat) (h1 : lo / 64 ≤ k) (h2 : k ≤ hi / 64) (hle : lo ≤ hi) (X M : Int)
    (hX : X = ((18446744073709551615 / 2 ^ (63 - min hi (k * 64 + 63) % 64) : Nat) : Int)) (hM : M = ((2 ^ (max lo (k * 64) % 64) - 1 : Nat) : Int)) :
    bits .or .u64 (Pl.word (upto p lo hi k) k : Nat) (bits .andNot .u64 X M) = (Pl.word (upto p lo hi (k + 1)) k : Nat) := by
  have hf : max lo (k * 64) % 64 < 64 := Nat.mod_lt _ (by decide)
  have hp : 2 ^ (max lo (k * 64) % 64) < 2 ^ 64 := Nat.pow_lt_pow_right (by decide) hf
  have hq : 18446744073709551615 / 2 ^ (63 - min hi (k * 64 + 63) % 64) < 18446744073709551616 := Nat.lt_of_le_of_lt (Nat.div_le_self _ _) (by decide)
  have hr := Pl.word_range lo hi k h1 h2 hle
  have hw := Pl.word_lt (fun v => decide (lo ≤ v) && decide (v ≤ hi)) k
  rw [hX, hM, u64_andNot_nat _ _ hq (by omega), ← hr, u64_or_nat _ _ (Pl.word_lt _ _) hw, upto_at, upto_next]

theorem pow_sub_wrap (e : Nat) (he : e < 64) : IntKind.u64.wrap (IntKind.u64.wrap (2 ^ e) - 1) = ((2 ^ e - 1 : Nat) : Int) := by
  have h : 2 ^ e < 2 ^ 64 := Nat.pow_lt_pow_right (by decide) he
  have h0 : 0 < 2 ^ e := Nat.pow_pos (by decide)
  rw [pow_wrap e he, IntKind.wrap_u64]
  generalize 2 ^ e = x at h h0
  omega

/-- The four forms in which the walk writes the two masks. -/
theorem hi_all (hi k : Nat) (h : k * 64 + 63 < hi) : (18446744073709551615 : Int) = ((18446744073709551615 / 2 ^ (63 - min hi (k * 64 + 63) % 64) : Nat) : Int) := by
  rw [show min hi (k * 64 + 63) % 64 = 63 by omega]; rfl
theorem hi_cut (hi k : Nat) (h : hi ≤ k * 64 + 63) : (18446744073709551615 : Int) / 2 ^ (63 - hi % 64) = ((18446744073709551615 / 2 ^ (63 - min hi (k * 64 + 63) % 64) : Nat) : Int) := by
  rw [show min hi (k * 64 + 63) = hi by omega]; simp
theorem lo_all (lo k : Nat) (h : lo < k * 64) : (0 : Int) = ((2 ^ (max lo (k * 64) % 64) - 1 : Nat) : Int) := by
  rw [show max lo (k * 64) % 64 = 0 by omega]; rfl
theorem lo_cut (lo k : Nat) (h : k * 64 ≤ lo) : IntKind.u64.wrap (IntKind.u64.wrap (2 ^ (lo % 64)) - 1) = ((2 ^ (max lo (k * 64) % 64) - 1 : Nat) : Int) := by
  rw [show max lo (k * 64) = lo by omega]; exact pow_sub_wrap _ (Nat.mod_lt _ (by decide))

theorem upto_start (p : Nat → Bool) (lo hi : Nat) : upto p lo hi (lo / 64) = p := by
  funext v
  rw [Bool.eq_iff_iff]
  simp only [upto, Bool.or_eq_true, Bool.and_eq_true, decide_eq_true_eq]
  constructor
  · rintro (h | h)
    · exact h
    · omega
  · exact Or.inl

theorem upto_end (p : Nat → Bool) (lo hi k : Nat) (h : hi / 64 < k) : upto p lo hi k = fun v => p v || (decide (lo ≤ v) && decide (v ≤ hi)) := by
  funext v
  rw [Bool.eq_iff_iff]
  simp only [upto, Bool.or_eq_true, Bool.and_eq_true, decide_eq_true_eq]
  constructor
  · rintro (h | h)
    · exact Or.inl h
    · exact Or.inr h.1
  · rintro (h | h)
    · exact Or.inl h
    · exact Or.inr ⟨h, by omega⟩

set_option maxHeartbeats 400000 in
/-- addRange. -/
theorem addRange_any (B T lo hi : Nat) (p : Nat → Bool) (hlo : lo < 256) (hhi : hi < 256) (hle : lo ≤ hi) (w : World) (hc : Cls w B T p) :
    Calls Try.prog 23 #[.pointer (some ⟨B, 0, none⟩), .int .u8 (lo : Int), .int .u8 (hi : Int)] w fun e w' =>
      e = .returned (.tuple #[]) ∧ Cls w' B T (fun v => p v || (decide (lo ≤ v) && decide (v ≤ hi))) ∧ Below B w w' ∧ w'.heap.size = w.heap.size := by
  go_enter Try.func23, Try.ntmps23
  go_wp2
  go_loopw [6] (fun i wr => ∃ k : Nat, lo / 64 ≤ k ∧ k ≤ hi / 64 + 1 ∧ i = .int .i64 k ∧ Cls wr B T (upto p lo hi k) ∧ Below B w wr ∧ wr.heap.size = w.heap.size) (fun i _ => 4 - (intOf i).toNat)
  case atStart =>
    refine ⟨lo / 64, by omega, by omega, by go_num, ?_, Below.refl _ _, rfl⟩
    rw [upto_start]; exact hc
  case round =>
    obtain ⟨k, hk1, hk2, rfl, hcr, hbel, hsz⟩ := hrel
    by_cases hlt : k ≤ hi / 64
    · have hcell := hcr.cell k (by omega)
      have hfr := hcr.free k
      have hst := fun x hx => hcr.store (q := upto p lo hi (k + 1)) k (by omega) (fun j _ h => upto_else p lo hi k j h) x hx
      have HST : Hid (∀ x : Int, x = (Pl.word (upto p lo hi (k + 1)) k : Nat) → Cls (wr.setCell ⟨B, k, none⟩ (.int .u64 x)) B T (upto p lo hi (k + 1))) := hst
      have HSZ : Hid (wr.heap.size = w.heap.size) := hsz
      clear hst hcr hc hsz
      go_wp2
      all_goals go_region
      all_goals go_wp2
      all_goals
        go_roundw
        case rel =>
          refine ⟨k + 1, by omega, by omega, by go_num, HST.out _ (rng_word p lo hi k hk1 hlt hle _ _ ?_ ?_), (hbel.setCell (p := ⟨B, k, none⟩) (Nat.le_refl B) _).drew, by simpa using HSZ.out⟩
          · first | exact hi_all hi k (by omega) | exact hi_cut hi k (by omega)
          · first | exact lo_all lo k (by omega) | exact lo_cut lo k (by omega)
        case measure => simp [intOf]; omega
    · go_wp2
      go_end0
      refine ⟨rfl, ?_, hbel, hsz⟩
      rw [← upto_end p lo hi k (by omega)]; exact hcr

end Go.Proofs.Qxb6603747a
