/-
  THE WALK of glob.ZZset: set's answer handed on.
-/
import Derived.Test.Qxb6603747aSet
namespace Go.Proofs.Qxb6603747a
open Go.RowKit
set_option linter.unusedSimpArgs false

theorem bcell {B : Nat} {W w1 : World} (hb : Below B W w1) : (∀ b o, b < B → w1.cell? ⟨b, o, none⟩ = W.cell? ⟨b, o, none⟩) ∧ (∀ b o, b < B → w1.frozen? ⟨b, o, none⟩ = W.frozen? ⟨b, o, none⟩) :=
  ⟨fun b o h => hb.cell (p := ⟨b, o, none⟩) h, fun b o h => hb.frozen (p := ⟨b, o, none⟩) h⟩

set_option maxRecDepth 100000 in
set_option maxHeartbeats 1000000 in
theorem zzset_any (s : ByteArray) (i : Nat) (hs : s.size ≤ 1048576) (hi : i ≤ s.size) (w : World) :
    Calls Try.prog 8 #[.string s, .int .i64 (i : Int)] w fun e w' => e = .returned (.tuple #[.agg #[wv (Pl.setP s i) 0, wv (Pl.setP s i) 1, wv (Pl.setP s i) 2, wv (Pl.setP s i) 3], .int .i64 (Pl.setN s i : Nat)]) ∧ Below w.heap.size w w' := by
  obtain ⟨P, hP⟩ : ∃ P, P = Pl.setP s i := ⟨_, rfl⟩
  obtain ⟨n, hn⟩ : ∃ n, n = Pl.setN s i := ⟨_, rfl⟩
  have H := set_any s i hs hi
  rw [← hP, ← hn] at H
  rw [← hP, ← hn]
  have HC := hide H
  clear H hP hn
  go_enter Try.func8, Try.ntmps8
  go_wp2_with fail
  refine (HC.out _).mono ?_
  rintro e w1 ⟨rfl, hb1⟩
  have hz : w.heap.size < w1.heap.size := by have := hb1.size; simp at this; omega
  have hcl : Cls w1 w.heap.size 24 (fun _ => false) := by
    unfold Cls
    rw [hb1.block _ (by simp)]
    simp only [wv, Pl.word_none]
    show (w.heap.push _)[w.heap.size]? = _
    simp
  have c0 := hcl.cell 0 (by omega)
  have c1 := hcl.cell 1 (by omega)
  have c2 := hcl.cell 2 (by omega)
  have c3 := hcl.cell 3 (by omega)
  have f0 := hcl.free 0
  have f1 := hcl.free 1
  have f2 := hcl.free 2
  have f3 := hcl.free 3
  have HB := hide hb1
  clear hb1 hcl
  unfold wv
  go_wp2_with fail
  refine bodyPost_ret (v := .tuple #[.agg #[wv P 0, wv P 1, wv P 2, wv P 3], .int .i64 (n : Int)]) (by simp [results, Try.results8, go_sem, c0, c1, c2, c3, hz, wv]) rfl ⟨rfl, ?_⟩
  have h0 : Below w.heap.size w w1 := ((Below.refl _ _).alloc (Nat.le_refl _) _).trans (HB.out.mono (by simp))
  exact (below_again (p := P) h0).alloc (by have := (below_again (p := P) h0).size; omega) _
end Go.Proofs.Qxb6603747a
