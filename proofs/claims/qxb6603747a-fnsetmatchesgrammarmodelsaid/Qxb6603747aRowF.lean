/-
  A block of words as a function of the index; the walks of BitAt and CloneWords.
-/
import Derived.Test.Qxb6603747aRows
import Derived.Test.Qxb6603747aShift
import Derived.WalkKit
import Derived.WalkLawsBesides
import Derived.WalkSpells
import Derived.Laws.BitsAllLaws
import Derived.OwnWalk
import Derived.Lib.LazyBuf
namespace Go.Proofs.Qxb6603747a
open Go.RowKit

theorem hid {p : Prop} (h : p) : Hid p := h

theorem heap_put {w : World} {B T : Nat} {cs : Array Value} (h : w.heap[B]? = some (.cells cs T (0, 0))) (k : Nat) (v : Value) :
    (w.setCell ⟨B, k, none⟩ v).heap[B]? = some (.cells (cs.setIfInBounds k v) T (0, 0)) := by
  have hlt := lt_of_block h
  have h' : w.heap[B] = .cells cs T (0, 0) := by simpa [Array.getElem?_eq_getElem hlt] using h
  show (w.heap.modify B _)[B]? = _
  rw [Array.getElem?_eq_getElem (by simpa using hlt), Array.getElem_modify_self, h']
  rfl

/-- Block g holds n words, the j-th is f j. -/
def RowF (w : World) (g n : Nat) (f : Nat → Nat) : Prop := ∃ cs : Array Value, w.heap[g]? = some (.cells cs 23 (0, 0)) ∧ cs.size = n ∧ ∀ j, j < n → cs[j]? = some (.int .u64 (f j : Nat))

theorem RowF.lt {w : World} {g n : Nat} {f : Nat → Nat} (h : RowF w g n f) : g < w.heap.size := by
  obtain ⟨cs, h1, _⟩ := h
  exact lt_of_block h1
theorem RowF.cell {w : World} {g n : Nat} {f : Nat → Nat} (h : RowF w g n f) (j : Nat) (hj : j < n) : w.cell? ⟨g, j, none⟩ = some (.int .u64 (f j : Nat)) := by
  obtain ⟨cs, h1, _, h3⟩ := h
  simp [World.cell?, h1, h3 j hj]
theorem RowF.free {w : World} {g n : Nat} {f : Nat → Nat} (h : RowF w g n f) (j : Nat) : w.frozen? ⟨g, j, none⟩ = false := by
  obtain ⟨cs, h1, _⟩ := h
  simp [World.frozen?, h1]
theorem RowF.of_block {w w' : World} {g n : Nat} {f : Nat → Nat} (h : RowF w g n f) (e : w'.heap[g]? = w.heap[g]?) : RowF w' g n f := by
  obtain ⟨cs, h1, h2, h3⟩ := h
  exact ⟨cs, e.trans h1, h2, h3⟩
theorem RowF.congr {w : World} {g n : Nat} {f f' : Nat → Nat} (h : RowF w g n f) (e : ∀ j, j < n → f j = f' j) : RowF w g n f' := by
  obtain ⟨cs, h1, h2, h3⟩ := h
  exact ⟨cs, h1, h2, fun j hj => by rw [h3 j hj, e j hj]⟩
theorem RowF.store {w : World} {g n : Nat} {f f' : Nat → Nat} (h : RowF w g n f) (k : Nat) (ho : ∀ j, j < n → j ≠ k → f' j = f j) (x : Int) (hx : x = (f' k : Nat)) : RowF (w.setCell ⟨g, k, none⟩ (.int .u64 x)) g n f' := by
  obtain ⟨cs, h1, h2, h3⟩ := h
  refine ⟨cs.setIfInBounds k (.int .u64 x), heap_put h1 k _, by simp [h2], fun j hj => ?_⟩
  rw [Array.getElem?_setIfInBounds]
  by_cases e : k = j
  · subst e
    simp [h2, hj, hx]
  · rw [if_neg e, h3 j hj, ho j hj (Ne.symm e)]
theorem RowF.other {w : World} {g n : Nat} {f : Nat → Nat} (h : RowF w g n f) {a : Addr} (ha : g ≠ a.block) (v : Value) : RowF (w.setCell a v) g n f :=
  h.of_block (Below.heap_setCell w a v g ha)

/-- The bit as the walk writes it. -/
theorem bit_word (x b : Nat) (hx : x < 18446744073709551616) : (bits .and .u64 ((x : Int) / 2 ^ b) 1 == 1) = x.testBit b := by
  have e : (x : Int) / 2 ^ b = ((x / 2 ^ b : Nat) : Int) := by simp
  have hd : x / 2 ^ b < 18446744073709551616 := Nat.lt_of_le_of_lt (Nat.div_le_self _ _) hx
  have h1 : bits .and .u64 ((x / 2 ^ b : Nat) : Int) 1 = ((x / 2 ^ b &&& 1 : Nat) : Int) := u64_and_nat _ 1 hd (by decide)
  rw [e, h1, Nat.testBit, Nat.shiftRight_eq_div_pow, Nat.and_comm 1, Nat.and_one_is_mod]
  rcases Nat.mod_two_eq_zero_or_one (x / 2 ^ b) with e | e <;> simp [e]

theorem bitAt_any (g n c p : Nat) (f : Nat → Nat) (w : World) (hr : RowF w g n f) (hn : n ≤ 131072) (hp : p < 64 * n) (hf : f (p / 64) < 18446744073709551616) :
    Calls Try.prog 18 #[.slice (some ⟨g, 0, none⟩) n c, .int .i64 (p : Int)] w fun e w' => e = .returned (.bool (Pl.bit f p)) ∧ w' = w := by
  have hc := hr.cell (p / 64) (by omega)
  have i0 : (p : Int) / 64 < (n : Int) := by omega
  have HB := hid (bit_word (f (p / 64)) (p % 64) hf)
  clear hr hf
  go_enter Try.func18, Try.ntmps18
  go_wp2
  go_ret
  exact ⟨by rw [HB.out]; rfl, rfl⟩

theorem info23 : (Try.prog.info? 23).map (fun i => (i.zero, i.size, i.bytes)) = some (some (.int .u64 0), 1, 8) := by kernel_rfl

/-- What make has laid. -/
theorem made_row {w : World} {base g n : Nat} {v : Value} (h : w.ownsRow base 23 1 v n (madeCells #[Value.int .u64 0] n).toList) (hv : v = .slice (some ⟨g, 0, none⟩) n n) : RowF w g n (fun _ => 0) := by
  obtain ⟨h1, h2⟩ := h
  subst hv
  rcases h2 with ⟨h2, _⟩ | ⟨g', cap, cur, hv, _, hh, _, _, hs, ht⟩
  · cases h2
  · cases hv
    refine ⟨cur, hh, by omega, fun j hj => ?_⟩
    have e : cur.toList = (madeCells #[Value.int .u64 0] n).toList := by
      rw [← ht, List.take_of_length_le (by simp; omega)]
    have e2 : cur[j]? = (madeCells #[Value.int .u64 0] n)[j]? := by
      rw [← Array.getElem?_toList, e, Array.getElem?_toList]
    rw [e2]
    have e3 : j % 1 = 0 := Nat.mod_one j
    simp [madeCells, hj, e3]

/-- The words below k are copied. -/
def part (f : Nat → Nat) (k : Nat) : Nat → Nat := fun j => if j < k then f j else 0

set_option maxHeartbeats 1000000 in
theorem clone_any (b off len cap : Nat) (f : Nat → Nat) (w : World) (hb : b < w.heap.size) (hlen : len ≤ 131072) (hcs : ∀ i, i < len → w.cell? ⟨b, off + i, none⟩ = some (.int .u64 (f i : Nat))) :
    Calls Try.prog 16 #[.slice (some ⟨b, off, none⟩) len cap] w fun e w' => e = .returned (.slice (some ⟨w.heap.size, 0, none⟩) len len) ∧ RowF w' w.heap.size len f ∧ Below w.heap.size w w' := by
  obtain ⟨i0, hi, hz0, hz1, hz2⟩ := info_parts info23
  have hnil := fun wx => Lib.run_eql_slice_nil (P := Try.prog) wx 32 23 (some ⟨b, off, none⟩) len cap 0 0 Try.underlying32
  have HCS := hid hcs
  clear hcs
  go_enter Try.func16, Try.ntmps16
  go_wp2_with (at_make; refine wpList_make_full _ rfl _ _ 32 rfl w.heap.size 23 i0 (.int .u64 0) 1 Try.underlying32 hi hz0 hz1 _ _ _ _ len rfl rfl rfl rfl ?b2 ?b3 (Nat.le_refl _) ?_)
  case b2 => rw [hz2]; omega
  case b3 => unfold maxLen; omega
  intro w0 hown0 hgrow0
  have hr0 := made_row hown0 rfl
  have hbl0 : Below w.heap.size w w0 := (Below.refl _ _).grown hgrow0 (Nat.le_refl _) (fun k h => by cases h)
  clear hown0 hgrow0 hnil hi hz0 hz1 hz2
  go_wp2
  go_loopw [4] (fun t wr => ∃ k : Nat, t = .int .i64 k ∧ k ≤ len ∧ RowF wr w.heap.size len (part f k) ∧ Below w.heap.size w wr) (fun t _ => len - (intOf t).toNat)
  case atStart => exact ⟨0, rfl, Nat.zero_le _, hr0.congr (fun j _ => by simp [part]), hbl0⟩
  case round =>
    obtain ⟨k, rfl, hk, hr, hbl⟩ := hrel
    by_cases hlt : k < len
    · have c1 : wr.cell? ⟨b, off + k, none⟩ = some (.int .u64 (f k : Nat)) := (hbl.cell (p := ⟨b, off + k, none⟩) hb).trans (HCS.out k hlt)
      have c2 := hr.cell k hlt
      have f2 := hr.free k
      have HST := hid (hr.store (f' := part f (k + 1)) k (fun j _ hj => by simp only [part]; split <;> split <;> first | rfl | omega) (f k : Nat) (by simp [part]))
      clear hr
      go_wp2
      go_roundw
      case rel => exact ⟨k + 1, by go_num, by omega, HST.out, hbl.setCell (p := ⟨w.heap.size, k, none⟩) (Nat.le_refl _) _⟩
      case measure => simp [intOf]; omega
    · go_wp2
      go_ret
      exact ⟨rfl, hr.congr (fun j hj => by simp [part]; omega), hbl⟩

end Go.Proofs.Qxb6603747a
