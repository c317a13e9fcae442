/-
  TWO SETS SIDE BY SIDE, each with its own blocks.
-/
import Derived.Test.Qxb6604378aPlain
namespace Go.Proofs.Qxb6604378a
open Go.RowKit Go.Maps
set_option linter.unusedVariables false
set_option linter.unusedSimpArgs false

theorem Inv.keep {w w' : World} {B sz : Nat} {kv : Value} {kp : Option (List ByteArray)} {fp : List Nat} {st : (List ByteArray × Bool) ⊕ List ByteArray} (h : Inv w B sz kv kp fp st)
    (hs : w.heap.size ≤ w'.heap.size) (hb : ∀ k, k = B ∨ k ∈ fp → w'.heap[k]? = w.heap[k]?) : Inv w' B sz kv kp fp st := by
  cases st with
  | inr S =>
    obtain ⟨r, h1, h2, h3, h4, rfl⟩ := h
    refine ⟨r, ?_, h2.of_block (hb r (Or.inr (by simp))), h3, by omega, rfl⟩
    rw [← h1]; unfold World.cell?; rw [hb B (Or.inl rfl)]
  | inl q =>
    obtain ⟨L, un⟩ := q
    obtain ⟨hL, a, c, hr, ho, hvB, rfl⟩ := h
    refine ⟨hL, a, c, hr.of_block (hb B (Or.inl rfl)), ?_, hvB, rfl⟩
    obtain ⟨hlen, h⟩ := ho
    refine ⟨hlen, ?_⟩
    rcases h with h | ⟨g, c', cur, hv, h0, hh, hrest⟩
    · exact Or.inl h
    · refine Or.inr ⟨g, c', cur, hv, h0, ?_, hrest⟩
      rw [hb g (Or.inr (by rw [hv]; simp [Value.ownBlock]))]
      exact hh

theorem Inv.lt {w : World} {B sz : Nat} {kv : Value} {kp : Option (List ByteArray)} {fp : List Nat} {st : (List ByteArray × Bool) ⊕ List ByteArray} (h : Inv w B sz kv kp fp st) : B < w.heap.size ∧ ∀ b ∈ fp, b < w.heap.size := by
  cases st with
  | inr S =>
    obtain ⟨r, h1, h2, h3, h4, rfl⟩ := h
    exact ⟨h4, fun b hb => by rw [List.mem_singleton.1 hb]; exact h2.lt⟩
  | inl q =>
    obtain ⟨L, un⟩ := q
    obtain ⟨hL, a, c, hr, ho, hvB, rfl⟩ := h
    refine ⟨hr.lt, fun b hb => ?_⟩
    obtain ⟨hlen, h⟩ := ho
    rcases h with ⟨h, _⟩ | ⟨g, c', cur, hv, h0, hh, hrest⟩
    · rw [h] at hb; simp [Value.ownBlock] at hb
    · rw [hv] at hb
      simp [Value.ownBlock] at hb
      rw [hb]
      exact lt_of_block hh

/-- Above g, and apart. -/
structure Apart (g B1 B2 : Nat) (fp1 fp2 : List Nat) : Prop where
  b1 : g < B1
  b2 : g < B2
  ne : B1 ≠ B2
  f1 : ∀ b ∈ fp1, g < b ∧ b ≠ B2 ∧ b ∉ fp2
  f2 : ∀ b ∈ fp2, g < b ∧ b ≠ B1

/-- The two sets after i and j names, and the row of what is wanted. -/
def Duo (w : World) (B1 B2 sz len : Nat) (ns : Nat → ByteArray) (i j : Nat) (wr : World) : Prop :=
  ∃ fp1 fp2, Inv wr B1 0 .nilFunc none fp1 (runS none (twice ns len) i) ∧ Inv wr B2 sz .nilFunc none fp2 (runS none (twice ns len) j) ∧ Apart w.heap.size B1 B2 fp1 fp2 ∧
    RowV wr w.heap.size 4 len (fun i => .bool (nw ns i)) ∧ Below w.heap.size w wr

theorem Duo.quiet {w wr wx : World} {B1 B2 sz len : Nat} {ns : Nat → ByteArray} {i j : Nat} (h : Duo w B1 B2 sz len ns i j wr) (hq : Quiet wr wx) : Duo w B1 B2 sz len ns i j wx := by
  obtain ⟨fp1, fp2, h1, h2, h3, h4, h5⟩ := h
  have e : wr.heap.size ≤ wx.heap.size := by rw [hq.heap]; exact Nat.le_refl _
  exact ⟨fp1, fp2, h1.keep e (fun _ _ => by rw [hq.heap]), h2.keep e (fun _ _ => by rw [hq.heap]), h3, h4.of_block (by rw [hq.heap]), h5.trans (hq.below _)⟩

theorem Duo.one {w wr : World} {B1 B2 sz len : Nat} {ns : Nat → ByteArray} {i j : Nat} (h : Duo w B1 B2 sz len ns i j wr) (hi : i ≤ 8192) (hn : ∀ i, (ns i).size ≤ maxLen) :
    Calls Try.prog 10 #[.pointer (some ⟨B1, 0, none⟩), .string (twice ns len i)] wr fun e w' => e = .returned (.bool (nw (twice ns len) i)) ∧ Duo w B1 B2 sz len ns (i + 1) j w' := by
  obtain ⟨fp1, fp2, h1, h2, h3, h4, h5⟩ := h
  have hK : Knows none (twice ns len) 8192 := Or.inl rfl
  refine (add_step B1 0 .nilFunc none fp1 _ (twice ns len i) wr h1 (Or.inl ⟨rfl, rfl⟩) (run_enough hK i hi) (run_fits hK i hi (Nat.le_refl _)) (by omega) (by unfold twice; split <;> exact hn _)).mono ?_
  rintro e w' ⟨rfl, fp1', hI, hfp, hF⟩
  obtain ⟨l1, l2⟩ := h2.lt
  refine ⟨by rw [run_says hK i hi], fp1', fp2, hI, h2.keep hF.size (fun k hk => hF.block k ?_ ?_ ?_), ⟨h3.b1, h3.b2, h3.ne, ?_, h3.f2⟩, h4.of_block (hF.block _ h4.lt (by have := h3.b1; omega) ?_), ?_⟩
  · rcases hk with rfl | hk
    · exact l1
    · exact l2 k hk
  · rcases hk with rfl | hk
    · exact h3.ne.symm
    · exact (h3.f2 k hk).2
  · rcases hk with rfl | hk
    · exact fun h => (h3.f1 k h).2.1 rfl
    · exact fun h => (h3.f1 k h).2.2 hk
  · intro b hb
    rcases hfp b hb with hb | hb
    · exact h3.f1 b hb
    · refine ⟨by have := h4.lt; omega, by omega, fun h => by have := l2 b h; omega⟩
  · exact fun h => by have := (h3.f1 _ h).1; omega
  · refine h5.trans ⟨hF.os, hF.tape, hF.output, hF.size, fun k hk => hF.block k (by have := h4.lt; omega) (by have := h3.b1; omega) (fun h => by have := (h3.f1 _ h).1; omega)⟩

theorem Duo.swap {w wr : World} {B1 B2 sz len : Nat} {ns : Nat → ByteArray} {i j : Nat} (h : Duo w B1 B2 sz len ns i j wr) (hj : j ≤ 8192) (hsz : sz ≤ 65536) (hn : ∀ i, (ns i).size ≤ maxLen) :
    Calls Try.prog 10 #[.pointer (some ⟨B2, 0, none⟩), .string (twice ns len j)] wr fun e w' => e = .returned (.bool (nw (twice ns len) j)) ∧ Duo w B1 B2 sz len ns i (j + 1) w' := by
  obtain ⟨fp1, fp2, h1, h2, h3, h4, h5⟩ := h
  have hK : Knows none (twice ns len) 8192 := Or.inl rfl
  refine (add_step B2 sz .nilFunc none fp2 _ (twice ns len j) wr h2 (Or.inl ⟨rfl, rfl⟩) (run_enough hK j hj) (run_fits hK j hj (Nat.le_refl _)) hsz (by unfold twice; split <;> exact hn _)).mono ?_
  rintro e w' ⟨rfl, fp2', hI, hfp, hF⟩
  obtain ⟨l1, l2⟩ := h1.lt
  refine ⟨by rw [run_says hK j hj], fp1, fp2', h1.keep hF.size (fun k hk => hF.block k ?_ ?_ ?_), hI, ⟨h3.b1, h3.b2, h3.ne, ?_, ?_⟩, h4.of_block (hF.block _ h4.lt (by have := h3.b2; omega) ?_), ?_⟩
  · rcases hk with rfl | hk
    · exact l1
    · exact l2 k hk
  · rcases hk with rfl | hk
    · exact h3.ne
    · exact (h3.f1 k hk).2.1
  · rcases hk with rfl | hk
    · exact fun h => (h3.f2 k h).2 rfl
    · exact fun h => (h3.f1 k hk).2.2 h
  · intro b hb
    refine ⟨(h3.f1 b hb).1, (h3.f1 b hb).2.1, fun h => ?_⟩
    rcases hfp b h with h | h
    · exact (h3.f1 b hb).2.2 h
    · have := l2 b hb; omega
  · intro b hb
    rcases hfp b hb with hb | hb
    · exact h3.f2 b hb
    · exact ⟨by have := h4.lt; omega, by omega⟩
  · exact fun h => by have := (h3.f2 _ h).1; omega
  · refine h5.trans ⟨hF.os, hF.tape, hF.output, hF.size, fun k hk => hF.block k (by have := h4.lt; omega) (by have := h3.b2; omega) (fun h => by have := (h3.f2 _ h).1; omega)⟩

theorem Duo.name {w wr : World} {B1 B2 sz len : Nat} {ns : Nat → ByteArray} {i j : Nat} (h : Duo w B1 B2 sz len ns i j wr) {b off : Nat} (hb : b < w.heap.size) {k : Nat} {v : Value} (hc : w.cell? ⟨b, off + k, none⟩ = some v) : wr.cell? ⟨b, off + k, none⟩ = some v := by
  obtain ⟨fp1, fp2, h1, h2, h3, h4, h5⟩ := h
  exact (h5.cell (p := ⟨b, off + k, none⟩) hb).trans hc
theorem Duo.want {w wr : World} {B1 B2 sz len : Nat} {ns : Nat → ByteArray} {i j : Nat} (h : Duo w B1 B2 sz len ns i j wr) (k : Nat) (hk : k < len) : wr.cell? ⟨w.heap.size, k, none⟩ = some (.bool (nw ns k)) := by
  obtain ⟨fp1, fp2, h1, h2, h3, h4, h5⟩ := h
  exact h4.cell k hk
theorem Duo.below {w wr : World} {B1 B2 sz len : Nat} {ns : Nat → ByteArray} {i j : Nat} (h : Duo w B1 B2 sz len ns i j wr) : Below w.heap.size w wr := by
  obtain ⟨fp1, fp2, h1, h2, h3, h4, h5⟩ := h
  exact h5

/-- Both made. -/
theorem Duo.made {w w1 w2 : World} {sz len : Nat} {ns : Nat → ByteArray} (hz1 : w.heap.size < w1.heap.size) (hr : RowV w1 w.heap.size 4 len (fun i => .bool (nw ns i))) (hb1 : Below w.heap.size w w1)
    (hb2 : Below (w1.alloc (.cells (fresh 0 .nilFunc) 31)).heap.size (w1.alloc (.cells (fresh 0 .nilFunc) 31)) w2) :
    Duo w w1.heap.size w2.heap.size sz len ns 0 0 ((w2.alloc (.cells (fresh 0 .nilFunc) 31)).setCells w2.heap.size 0 (fresh sz .nilFunc).toList) := by
  have hs2 : w1.heap.size < w2.heap.size := by have := hb2.size; rw [World.size_alloc] at this; omega
  have hbase : Below w2.heap.size w2 ((w2.alloc (.cells (fresh 0 .nilFunc) 31)).setCells w2.heap.size 0 (fresh sz .nilFunc).toList) :=
    below_setCells _ (Nat.le_refl _) _ _ _ ((Below.refl _ _).alloc (Nat.le_refl _) _)
  have e1 : ((w2.alloc (.cells (fresh 0 .nilFunc) 31)).setCells w2.heap.size 0 (fresh sz .nilFunc).toList).heap[w1.heap.size]? = some (.cells (fresh 0 .nilFunc) 31 (0, 0)) := by
    rw [hbase.block _ hs2, hb2.block _ (by rw [World.size_alloc]; omega)]
    exact heap_alloc_new _ _
  have e2 : ((w2.alloc (.cells (fresh 0 .nilFunc) 31)).setCells w2.heap.size 0 (fresh sz .nilFunc).toList).heap[w2.heap.size]? = some (.cells (fresh sz .nilFunc) 31 (0, 0)) :=
    stored_row (heap_alloc_new _ _) rfl _ rfl
  refine ⟨[], [], fresh_inv none e1, fresh_inv none e2, ⟨by omega, by omega, by omega, (fun b hb => by cases hb), (fun b hb => by cases hb)⟩, ?_, ?_⟩
  · refine hr.of_block ?_
    rw [hbase.block _ (by omega), hb2.block _ (by rw [World.size_alloc]; omega)]
    exact heap_alloc_old _ _ hz1
  · exact hb1.trans (((Below.refl _ _).alloc (by omega) _).trans ((hb2.mono (by rw [World.size_alloc]; omega)).trans (hbase.mono (by omega))))
end Go.Proofs.Qxb6604378a
