/-
  THE WALKS of glob.literal, glob.element, glob.ZZelement.
-/
import Derived.Test.Qxb6603747aZz
namespace Go.Proofs.Qxb6603747a
open Go.RowKit
set_option linter.unusedSimpArgs false
set_option linter.unusedVariables false

/-- ? or [: no literal. -/
theorem literal_no (s : ByteArray) (i : Nat) (hs : s.size ≤ 1048576) (hi : i < s.size) (h : ((s[i].toNat : Int) == 63) = true ∨ ((s[i].toNat : Int) == 63) = false ∧ ((s[i].toNat : Int) == 91) = true) (w : World) :
    Calls Try.prog 24 #[.string s, .int .i64 (i : Int)] w fun e w' => e = .returned (.tuple #[.int .u8 0, .int .i64 (i : Int), .bool false]) ∧ w' = w := by
  have i0 : (i : Int) < (s.size : Int) := by omega
  rcases h with h | ⟨h, h'⟩
  · go_enter Try.func24, Try.ntmps24
    go_wp2
    go_ret3
    exact ⟨rfl, rfl⟩
  · go_enter Try.func24, Try.ntmps24
    go_wp2
    go_ret3
    exact ⟨rfl, rfl⟩

theorem literal_esc (s : ByteArray) (i : Nat) (hs : s.size ≤ 1048576) (hi : i < s.size) (h1 : i + 1 < s.size) (a : ((s[i].toNat : Int) == 63) = false) (b : ((s[i].toNat : Int) == 91) = false) (c : ((s[i].toNat : Int) == 92) = true) (w : World) :
    Calls Try.prog 24 #[.string s, .int .i64 (i : Int)] w fun e w' => e = .returned (.tuple #[.int .u8 ((s[i + 1]'h1).toNat : Int), .int .i64 ((i : Int) + 2), .bool true]) ∧ w' = w := by
  have i0 : (i : Int) < (s.size : Int) := by omega
  have i1 : (i : Int) + 1 < (s.size : Int) := by omega
  go_enter Try.func24, Try.ntmps24
  go_wp2
  go_ret3
  exact ⟨by simp; omega, rfl⟩

theorem literal_yes (s : ByteArray) (i : Nat) (hs : s.size ≤ 1048576) (hi : i < s.size) (a : ((s[i].toNat : Int) == 63) = false) (b : ((s[i].toNat : Int) == 91) = false) (c : ((s[i].toNat : Int) == 92) = false ∨ ((s[i].toNat : Int) == 92) = true ∧ ¬ i + 1 < s.size) (w : World) :
    Calls Try.prog 24 #[.string s, .int .i64 (i : Int)] w fun e w' => e = .returned (.tuple #[.int .u8 (s[i].toNat : Int), .int .i64 ((i : Int) + 1), .bool true]) ∧ w' = w := by
  have i0 : (i : Int) < (s.size : Int) := by omega
  rcases c with c | ⟨c, h1⟩
  · go_enter Try.func24, Try.ntmps24
    go_wp2
    go_ret3
    exact ⟨rfl, rfl⟩
  · have i1 : ¬ (i : Int) + 1 < (s.size : Int) := by omega
    go_enter Try.func24, Try.ntmps24
    go_wp2
    go_ret3
    exact ⟨rfl, rfl⟩
/-- What element answers: its end, and that it matches some byte unless it is a set. -/
def EPost (s : ByteArray) (i : Nat) (w : World) (e : Ending) (w' : World) : Prop :=
  ∃ (P : Nat → Bool) (n : Nat), e = .returned (.tuple #[.agg #[wv P 0, wv P 1, wv P 2, wv P 3], .int .i64 (n : Int)]) ∧ i < n ∧ n ≤ s.size ∧ (Pl.bt s i ≠ 91 → ∃ v, v < 256 ∧ P v = true) ∧ Below w.heap.size w w'

theorem cls_put {w : World} {B T : Nat} {p : Nat → Bool} (h : Cls w B T p) (q : Nat → Bool) : Cls (again w B q) B T q := by
  unfold Cls at h ⊢
  have h1 := heap_setCell_here h 0 (.int .u64 (Pl.word q 0 : Nat))
  have h2 := heap_setCell_here h1 1 (.int .u64 (Pl.word q 1 : Nat))
  have h3 := heap_setCell_here h2 2 (.int .u64 (Pl.word q 2 : Nat))
  have h4 := heap_setCell_here h3 3 (.int .u64 (Pl.word q 3 : Nat))
  unfold again
  rw [h4]
  simp [wv]

theorem cls_none (w : World) : Cls (w.alloc Z4) w.heap.size 38 (fun _ => false) := cls_zero w

set_option maxRecDepth 100000 in
set_option maxHeartbeats 2000000 in
theorem element_any (s : ByteArray) (i : Nat) (hs : s.size ≤ 1048576) (hi : i < s.size) (w : World) :
    Calls Try.prog 20 #[.string s, .int .i64 (i : Int)] w fun e w' => EPost s i w e w' := by
  have i0 : (i : Int) < (s.size : Int) := by omega
  by_cases h63 : (s[i].toNat : Int) = 63
  · have b63 : ((s[i].toNat : Int) == 63) = true := by rw [beq_iff_eq]; exact h63
    have hl := literal_no s i hs hi (Or.inl b63)
    clear h63
    have HL := hide hl
    clear hl
    go_enter Try.func20, Try.ntmps20
    go_wp2_with fail
    refine (HL.out _).mono ?_
    rintro e w' ⟨rfl, hw⟩
    obtain rfl := hw
    go_wp2_with fail
    refine (addRange_any w.heap.size 38 0 255 (fun _ => false) (by omega) (by omega) (by omega) _ (cls_none w)).mono ?_
    rintro e w1 ⟨rfl, hc, hb, hz⟩
    obtain ⟨P, hP⟩ : ∃ P : Nat → Bool, P = fun v => false || (decide (0 ≤ v) && decide (v ≤ 255)) := ⟨_, rfl⟩
    have hP0 : P 0 = true := by rw [hP]; rfl
    rw [← hP] at hc
    have HPP := hide hP0
    have ha := hc.again
    have HB := hide (below_again (p := P) (((Below.refl w.heap.size w).alloc (Nat.le_refl _) Z4).trans hb))
    have c0 := hc.cell 0 (by omega)
    have c1 := hc.cell 1 (by omega)
    have c2 := hc.cell 2 (by omega)
    have c3 := hc.cell 3 (by omega)
    have f0 := hc.free 0
    have f1 := hc.free 1
    have f2 := hc.free 2
    have f3 := hc.free 3
    have a0 := ha.cell 0 (by omega)
    have a1 := ha.cell 1 (by omega)
    have a2 := ha.cell 2 (by omega)
    have a3 := ha.cell 3 (by omega)
    unfold again at a0 a1 a2 a3
    have HA := hide (And.intro a0 (And.intro a1 (And.intro a2 a3)))
    clear a0 a1 a2 a3 ha hc hP hP0 hb hz HL
    go_wp2_with fail
    obtain ⟨a0, a1, a2, a3⟩ := HA.out
    refine bodyPost_ret (v := .tuple #[.agg #[wv P 0, wv P 1, wv P 2, wv P 3], .int .i64 ((i : Int) + 1)]) ?_ rfl ⟨P, i + 1, rfl, by omega, by omega, fun _ => ⟨0, by omega, HPP.out⟩, HB.out⟩
    simp [results, Try.results20, go_sem, a0, a1, a2, a3, wv]
  have b63 : ((s[i].toNat : Int) == 63) = false := by rw [beq_eq_false_iff_ne]; exact h63
  clear h63
  by_cases h91 : (s[i].toNat : Int) = 91
  · have b91 : ((s[i].toNat : Int) == 91) = true := by rw [beq_iff_eq]; exact h91
    have hn91 : ¬ Pl.bt s i ≠ 91 := by rw [← Pl.bt_eq s i hi]; omega
    have HL := hide (literal_no s i hs hi (Or.inr ⟨b63, b91⟩))
    have hset : ∀ wx, Calls Try.prog 19 #[.string s, .int .i64 ((i : Int) + 1)] wx fun e w' => e = .returned (.tuple #[.agg #[wv (Pl.setP s (i + 1)) 0, wv (Pl.setP s (i + 1)) 1, wv (Pl.setP s (i + 1)) 2, wv (Pl.setP s (i + 1)) 3], .int .i64 (Pl.setN s (i + 1) : Nat)]) ∧ Below wx.heap.size wx w' := fun wx => set_any s (i + 1) hs (by omega) wx
    have hnl := Pl.setN_le s (i + 1) (by omega)
    generalize Pl.setP s (i + 1) = P at hset
    generalize Pl.setN s (i + 1) = n at hset hnl
    have HSET := hide hset
    have HN91 := hide hn91
    have HNL := hide hnl
    clear h91 hset hn91 hnl
    go_enter Try.func20, Try.ntmps20
    go_wp2_with fail
    refine (HL.out _).mono ?_
    rintro e w' ⟨rfl, hw⟩
    obtain rfl := hw
    go_wp2_with fail
    refine (HSET.out _).mono ?_
    rintro e w1 ⟨rfl, hb⟩
    have hc : Cls w1 w.heap.size 38 (fun _ => false) := by
      have := hb.block w.heap.size (by simp)
      exact this.trans (cls_none w)
    have ha := cls_put hc P
    have HB := hide (below_again (p := P) (((Below.refl w.heap.size w).alloc (Nat.le_refl _) Z4).trans (hb.mono (by simp))))
    have c0 := hc.cell 0 (by omega)
    have c1 := hc.cell 1 (by omega)
    have c2 := hc.cell 2 (by omega)
    have c3 := hc.cell 3 (by omega)
    have f0 := hc.free 0
    have f1 := hc.free 1
    have f2 := hc.free 2
    have f3 := hc.free 3
    have a0 := ha.cell 0 (by omega)
    have a1 := ha.cell 1 (by omega)
    have a2 := ha.cell 2 (by omega)
    have a3 := ha.cell 3 (by omega)
    unfold again at a0 a1 a2 a3
    have HA := hide (And.intro a0 (And.intro a1 (And.intro a2 a3)))
    clear a0 a1 a2 a3 ha hc hb HL HSET
    unfold wv
    go_wp2_with fail
    obtain ⟨a0, a1, a2, a3⟩ := HA.out
    refine bodyPost_ret (v := .tuple #[.agg #[wv P 0, wv P 1, wv P 2, wv P 3], .int .i64 (n : Int)]) ?_ rfl ⟨P, n, rfl, by have := HNL.out; omega, HNL.out.2, fun h => absurd h HN91.out, HB.out⟩
    simp [results, Try.results20, go_sem, c0, c1, c2, c3, a0, a1, a2, a3, wv]
  have b91 : ((s[i].toNat : Int) == 91) = false := by rw [beq_eq_false_iff_ne]; exact h91
  clear h91
  by_cases h92 : (s[i].toNat : Int) = 92 ∧ i + 1 < s.size
  · obtain ⟨h92, h1⟩ := h92
    have b92 : ((s[i].toNat : Int) == 92) = true := by rw [beq_iff_eq]; exact h92
    clear h92
    have HL := hide (literal_esc s i hs hi h1 b63 b91 b92)
    go_enter Try.func20, Try.ntmps20
    go_wp2_with fail
    refine (HL.out _).mono ?_
    rintro e w' ⟨rfl, hw⟩
    obtain rfl := hw
    go_wp2_with fail
    refine (add_any w.heap.size 38 (s[i + 1]'h1).toNat (fun _ => false) (UInt8.toNat_lt _) _ (cls_none w)).mono ?_
    rintro e w1 ⟨rfl, hc, hb, hz⟩
    obtain ⟨P, hP⟩ : ∃ P : Nat → Bool, P = fun v => false || v == (s[i + 1]'h1).toNat := ⟨_, rfl⟩
    have hP0 : P (s[i + 1]'h1).toNat = true := by rw [hP]; simp
    rw [← hP] at hc
    have HPP := hide (⟨_, UInt8.toNat_lt _, hP0⟩ : ∃ v, v < 256 ∧ P v = true)
    have ha := hc.again
    have HB := hide (below_again (p := P) (((Below.refl w.heap.size w).alloc (Nat.le_refl _) Z4).trans hb))
    have c0 := hc.cell 0 (by omega)
    have c1 := hc.cell 1 (by omega)
    have c2 := hc.cell 2 (by omega)
    have c3 := hc.cell 3 (by omega)
    have f0 := hc.free 0
    have f1 := hc.free 1
    have f2 := hc.free 2
    have f3 := hc.free 3
    have a0 := ha.cell 0 (by omega)
    have a1 := ha.cell 1 (by omega)
    have a2 := ha.cell 2 (by omega)
    have a3 := ha.cell 3 (by omega)
    unfold again at a0 a1 a2 a3
    have HA := hide (And.intro a0 (And.intro a1 (And.intro a2 a3)))
    clear a0 a1 a2 a3 ha hc hP hP0 hb hz HL
    go_wp2_with fail
    obtain ⟨a0, a1, a2, a3⟩ := HA.out
    refine bodyPost_ret (v := .tuple #[.agg #[wv P 0, wv P 1, wv P 2, wv P 3], .int .i64 ((i : Int) + 2)]) ?_ rfl ⟨P, i + 2, rfl, by omega, by omega, fun _ => HPP.out, HB.out⟩
    simp [results, Try.results20, go_sem, a0, a1, a2, a3, wv]
  · have b92 : ((s[i].toNat : Int) == 92) = false ∨ ((s[i].toNat : Int) == 92) = true ∧ ¬ i + 1 < s.size := by
      by_cases e : (s[i].toNat : Int) = 92
      · exact Or.inr ⟨by rw [beq_iff_eq]; exact e, fun h => h92 ⟨e, h⟩⟩
      · exact Or.inl (by rw [beq_eq_false_iff_ne]; exact e)
    have HL0 := hide (literal_yes s i hs hi b63 b91 b92)
    clear h92 b92
    have HL := hide (HL0.out)
    go_enter Try.func20, Try.ntmps20
    go_wp2_with fail
    refine (HL.out _).mono ?_
    rintro e w' ⟨rfl, hw⟩
    obtain rfl := hw
    go_wp2_with fail
    refine (add_any w.heap.size 38 (s[i]'hi).toNat (fun _ => false) (UInt8.toNat_lt _) _ (cls_none w)).mono ?_
    rintro e w1 ⟨rfl, hc, hb, hz⟩
    obtain ⟨P, hP⟩ : ∃ P : Nat → Bool, P = fun v => false || v == (s[i]'hi).toNat := ⟨_, rfl⟩
    have hP0 : P (s[i]'hi).toNat = true := by rw [hP]; simp
    rw [← hP] at hc
    have HPP := hide (⟨_, UInt8.toNat_lt _, hP0⟩ : ∃ v, v < 256 ∧ P v = true)
    have ha := hc.again
    have HB := hide (below_again (p := P) (((Below.refl w.heap.size w).alloc (Nat.le_refl _) Z4).trans hb))
    have c0 := hc.cell 0 (by omega)
    have c1 := hc.cell 1 (by omega)
    have c2 := hc.cell 2 (by omega)
    have c3 := hc.cell 3 (by omega)
    have f0 := hc.free 0
    have f1 := hc.free 1
    have f2 := hc.free 2
    have f3 := hc.free 3
    have a0 := ha.cell 0 (by omega)
    have a1 := ha.cell 1 (by omega)
    have a2 := ha.cell 2 (by omega)
    have a3 := ha.cell 3 (by omega)
    unfold again at a0 a1 a2 a3
    have HA := hide (And.intro a0 (And.intro a1 (And.intro a2 a3)))
    clear a0 a1 a2 a3 ha hc hP hP0 hb hz HL
    go_wp2_with fail
    obtain ⟨a0, a1, a2, a3⟩ := HA.out
    refine bodyPost_ret (v := .tuple #[.agg #[wv P 0, wv P 1, wv P 2, wv P 3], .int .i64 ((i : Int) + 1)]) ?_ rfl ⟨P, i + 1, rfl, by omega, by omega, fun _ => HPP.out, HB.out⟩
    simp [results, Try.results20, go_sem, a0, a1, a2, a3, wv]
end Go.Proofs.Qxb6603747a
