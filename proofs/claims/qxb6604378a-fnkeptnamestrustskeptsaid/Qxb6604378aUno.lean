/-
  ONE SET WHOSE CALLER TELLS IT THE NAMES.
-/
import Derived.Test.Qxb6604378aDuo
namespace Go.Proofs.Qxb6604378a
open Go.RowKit Go.Maps
set_option linter.unusedVariables false
set_option linter.unusedSimpArgs false

theorem quiet_drew (w : World) : Quiet w w.drew := ⟨rfl, rfl, rfl, rfl⟩

/-- The set at B; all else of its blocks lies behind it; nothing before it has turned. -/
def Uno (w3 : World) (B sz : Nat) (kv : Value) (kp : Option (List ByteArray)) (st : (List ByteArray × Bool) ⊕ List ByteArray) (wr : World) : Prop :=
  ∃ fp, Inv wr B sz kv kp fp st ∧ (∀ b ∈ fp, B < b) ∧ Below B w3 wr

def Teller (w3 : World) (B : Nat) (kv : Value) (K : List ByteArray) : Prop :=
  ∃ Bk gk c, kv = .func (Fn.func 16) #[] #[.pointer (some ⟨Bk, 0, none⟩)] ∧ KeptAt w3 Bk gk c K ∧ K.length ≤ 8192 ∧ Bk < B ∧ gk < B ∧ ∀ s ∈ K, s.size ≤ maxLen

theorem Uno.quiet {w3 wr wx : World} {B sz : Nat} {kv : Value} {kp : Option (List ByteArray)} {st : (List ByteArray × Bool) ⊕ List ByteArray} (h : Uno w3 B sz kv kp st wr) (hq : Quiet wr wx) : Uno w3 B sz kv kp st wx := by
  obtain ⟨fp, h1, h2, h3⟩ := h
  exact ⟨fp, h1.keep (by rw [hq.heap]; exact Nat.le_refl _) (fun _ _ => by rw [hq.heap]), h2, h3.trans (hq.below _)⟩
theorem Uno.below {w3 wr : World} {B sz : Nat} {kv : Value} {kp : Option (List ByteArray)} {st : (List ByteArray × Bool) ⊕ List ByteArray} (h : Uno w3 B sz kv kp st wr) : Below B w3 wr := by
  obtain ⟨fp, h1, h2, h3⟩ := h
  exact h3
theorem Uno.cell {w3 wr : World} {B sz : Nat} {kv : Value} {kp : Option (List ByteArray)} {st : (List ByteArray × Bool) ⊕ List ByteArray} (h : Uno w3 B sz kv kp st wr) {b o : Nat} (hb : b < B) {v : Value} (hc : w3.cell? ⟨b, o, none⟩ = some v) : wr.cell? ⟨b, o, none⟩ = some v :=
  (h.below.cell (p := ⟨b, o, none⟩) hb).trans hc

theorem Uno.step {w3 wr : World} {B sz : Nat} {kv : Value} {K : List ByteArray} {st : (List ByteArray × Bool) ⊕ List ByteArray} (h : Uno w3 B sz kv (some K) st wr) (hT : Teller w3 B kv K) (hE : Enough (some K) st) (hF : Fits st) (hsz : sz ≤ 65536) (name : ByteArray) (hname : name.size ≤ maxLen) :
    Calls Try.prog 10 #[.pointer (some ⟨B, 0, none⟩), .string name] wr fun e w' => e = .returned (.bool (addR (some K) st name)) ∧ Uno w3 B sz kv (some K) (addS (some K) st name) w' := by
  obtain ⟨fp, h1, h2, h3⟩ := h
  obtain ⟨Bk, gk, c, rfl, hk, hKl, hBk, hgk, hKs⟩ := hT
  have hk' : KeptAt wr Bk gk c K := ⟨(h3.cell (p := ⟨Bk, 0, none⟩) hBk).trans hk.1, fun i hi => (h3.cell (p := ⟨gk, i, none⟩) hgk).trans (hk.2 i hi)⟩
  refine (add_step B sz _ (some K) fp st name wr h1 (Or.inr ⟨Bk, gk, c, K, rfl, rfl, hk', hKl, by omega, by omega, hKs⟩) hE hF hsz hname).mono ?_
  rintro e w' ⟨rfl, fp', hI, hfp, hFr⟩
  have hlt := h1.lt.1
  refine ⟨rfl, fp', hI, fun b hb => ?_, h3.trans ⟨hFr.os, hFr.tape, hFr.output, hFr.size, fun k hk => hFr.block k (by omega) (by omega) (fun h => by have := h2 k h; omega)⟩⟩
  rcases hfp b hb with hb | hb
  · exact h2 b hb
  · omega

/-- Made by ZZKeptNamesFrom and laid into a variable. -/
theorem uno_made {w1 w2 : World} {gk c sz : Nat} {K : List ByteArray} (hcells : ∀ i, i < K.length → w1.cell? ⟨gk, i, none⟩ = some (.string (K.getD i E))) (hgk : gk < w1.heap.size)
    (hbox : w2.cell? ⟨w1.heap.size, 0, none⟩ = some (.slice (some ⟨gk, 0, none⟩) K.length c)) (hz : w1.heap.size < w2.heap.size) (hb : Below w1.heap.size w1 w2) (hK : K.length ≤ 8192) (hs : ∀ s ∈ K, s.size ≤ maxLen) :
    let kv := Value.func (Fn.func 16) #[] #[.pointer (some ⟨w1.heap.size, 0, none⟩)]
    let w3 := (w2.alloc (.cells (fresh 0 .nilFunc) 31)).setCells w2.heap.size 0 (fresh sz kv).toList
    Uno w3 w2.heap.size sz kv (some K) (.inl ([], false)) w3 ∧ Teller w3 w2.heap.size kv K ∧ Below w2.heap.size w2 w3 := by
  intro kv w3
  have hbase : Below w2.heap.size w2 w3 := below_setCells _ (Nat.le_refl _) _ _ _ ((Below.refl _ _).alloc (Nat.le_refl _) _)
  have e2 : w3.heap[w2.heap.size]? = some (.cells (fresh sz kv) 31 (0, 0)) := stored_row (heap_alloc_new _ _) rfl _ rfl
  refine ⟨⟨[], fresh_inv _ e2, (fun b hb => by cases hb), Below.refl _ _⟩, ⟨w1.heap.size, gk, c, rfl, ⟨?_, fun i hi => ?_⟩, hK, hz, by omega, hs⟩, hbase⟩
  · exact (hbase.cell (p := ⟨w1.heap.size, 0, none⟩) hz).trans hbox
  · exact (hbase.cell (p := ⟨gk, i, none⟩) (by show gk < _; omega)).trans ((hb.cell (p := ⟨gk, i, none⟩) hgk).trans (hcells i hi))

/-- The cells of an owned row of names. -/
theorem owns_cells {w : World} {base g c : Nat} {xs : List ByteArray} (h : w.ownsRow base 9 1 (.slice (some ⟨g, 0, none⟩) xs.length c) xs.length (xs.map Value.string)) : g < w.heap.size ∧ ∀ i, i < xs.length → w.cell? ⟨g, i, none⟩ = some (.string (xs.getD i E)) := by
  obtain ⟨_, h⟩ := h
  rcases h with ⟨h, _⟩ | ⟨g', c', cur, hv, _, hh, hlc, _, hs, ht⟩
  · cases h
  · cases hv
    refine ⟨lt_of_block hh, fun i hi => ?_⟩
    have e : cur.toList[i]? = some (.string (xs.getD i E)) := by
      have h2 : (cur.toList.take (xs.length * 1))[i]? = (xs.map Value.string)[i]? := by rw [ht]
      rw [List.getElem?_take, if_pos (by omega), List.getElem?_map, List.getElem?_eq_getElem hi] at h2
      rw [h2, List.getD_eq_getElem?_getD, List.getElem?_eq_getElem hi]
      rfl
    simp only [World.cell?, hh]
    simpa using e

theorem fs_sizes (ns : Nat → ByteArray) (h : ∀ i, (ns i).size ≤ maxLen) : ∀ k, ∀ s ∈ fs ns k, s.size ≤ maxLen
  | 0, s, hs => by cases hs
  | k + 1, s, hs => by
    rw [fs] at hs
    split at hs
    · rcases List.mem_append.1 hs with hs | hs
      · exact fs_sizes ns h k s hs
      · rw [List.mem_singleton.1 hs]; exact h k
    · exact fs_sizes ns h k s hs
theorem fs_mono (ns : Nat → ByteArray) {k n : Nat} (h : k ≤ n) : (fs ns k).length ≤ (fs ns n).length := by
  obtain ⟨d, rfl⟩ : ∃ d, n = k + d := ⟨n - k, by omega⟩
  exact (fs_pre ns k d).length_le
theorem knows_twice (ns : Nat → ByteArray) (len : Nat) : Knows (some (fs ns len)) (twice ns len) (len + len) := by
  unfold Knows; rw [fs_twice ns len len (Nat.le_refl _)]; exact Or.inr rfl
end Go.Proofs.Qxb6604378a
