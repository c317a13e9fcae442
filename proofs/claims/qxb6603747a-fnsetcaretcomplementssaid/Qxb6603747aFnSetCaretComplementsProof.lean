/-
  'Rows.FnSetCaretComplementsSaid': the walk of the law, out of ZZset's contract (Zz) and the plain law (Caret). The frame is the given shell's, its end by 'Below' (as the shell of the slices has it).
-/
import Derived.Test.Qxb6603747aRows
import Derived.Test.Qxb6603747aZz
import Derived.Test.Qxb6603747aCaret
import Derived.BigQuiet
import Derived.ProofKit
import Derived.OpenShut
import Derived.ShutString
import Derived.ChangeOld
import Derived.Below
namespace Go.Proofs.Qxb6603747a.fnSetCaretComplements
open Go.ChangeShapes Go.WideShapes Go.ChangeAt Go.RowKit
open Go.ChangeMaps (open_string shut_string)
set_option linter.unusedVariables false

theorem own : ownKnob Try.prog.godebug = none := by kernel_rfl

theorem xor_word (p q : Nat → Bool) (k : Nat) (h : Pl.word q k = 18446744073709551615 ^^^ Pl.word p k) : ((Pl.word q k : Int) == bits .xor .u64 IntKind.u64.max (Pl.word p k : Nat)) = true := by
  rw [beq_iff_eq, h, show IntKind.u64.max = 18446744073709551615 from by decide]
  exact (bits_xor_u64_nat 18446744073709551615 (Pl.word p k) (by decide) (Pl.word_lt _ _)).symm

set_option maxRecDepth 100000 in
set_option maxHeartbeats 1000000 in
theorem walk_in (s : ByteArray) (i : Nat) (hs : s.size ≤ 1048575) (hi : i < s.size) (h94 : ¬ (s[i].toNat : Int) = 94) (w : World) :
    Calls Try.prog 4 #[.string s, .int .i64 (i : Int)] w fun e w' => e = .returned (.bool true) ∧ Below w.heap.size w w' := by
  have hb94 : ((s[i].toNat : Int) == 94) = false := by rw [beq_eq_false_iff_ne]; exact h94
  have hn94 : ¬ (i < s.size ∧ Pl.bt s i = 94) := by rw [← Pl.bt_eq s i hi]; omega
  have HN94 := hide hn94
  clear hn94
  have i0 : (i : Int) < (s.size : Int) := by omega
  have hsg : IntKind.u64.signed = false := rfl
  go_enter Try.func4, Try.ntmps4
  go_wp2_with (first | (go_at_call 11; go_in))
  obtain ⟨P, hP⟩ : ∃ P, P = Pl.setP s i := ⟨_, rfl⟩
  obtain ⟨n, hn⟩ : ∃ n, n = Pl.setN s i := ⟨_, rfl⟩
  have hnl : n ≤ s.size := by rw [hn]; exact (Pl.setN_le s i (by omega)).2
  have HPN := hide (And.intro hP hn)
  refine (zzset_any s i (by omega) (by omega) _).mono ?_
  rw [← hP, ← hn]
  clear hP hn
  rintro e w1 ⟨rfl, hb1⟩
  unfold wv
  go_wp2_with fail
  go_quiet (fail)
  go_wp2_with fail
  have hput := Pl.put_made s i (by omega)
  obtain ⟨q, hq⟩ : ∃ q, q = s.extract 0 i ++ { data := #[94] } ++ s.extract i s.size := ⟨_, rfl⟩
  rw [← hq] at hput ⊢
  clear hq
  obtain ⟨q1, q2⟩ := Pl.put_set hput (by omega) HN94.out
  have q3 := fun k => Pl.put_word hput (by omega) HN94.out k
  obtain ⟨P', hP'⟩ : ∃ P', P' = Pl.setP q i := ⟨_, rfl⟩
  have hqs := hput.1
  have HZ := zzset_any q i (by omega) (by omega)
  rw [← hP', q2, ← HPN.out.2] at HZ
  rw [← hP', ← HPN.out.1] at q3
  have x0 := xor_word P P' 0 (q3 0)
  have x1 := xor_word P P' 1 (q3 1)
  have x2 := xor_word P P' 2 (q3 2)
  have x3 := xor_word P P' 3 (q3 3)
  refine (HZ _).mono ?_
  clear HZ q1 q2 q3 hP' hput hqs HPN
  rintro e w2 ⟨rfl, hb2⟩
  have hcl : Cls w2 w1.heap.size 24 P := by
    unfold Cls
    rw [hb2.block _ (by simp)]
    simp only [wv]
    show (w1.heap.push _)[w1.heap.size]? = _
    simp
  have hz : w1.heap.size < w2.heap.size := hcl.lt
  have c0 := hcl.cell 0 (by omega)
  have c1 := hcl.cell 1 (by omega)
  have c2 := hcl.cell 2 (by omega)
  have c3 := hcl.cell 3 (by omega)
  have HB : Hid (Below w.heap.size w w2) := by
    have h1 := hb1.size
    exact (below_drewN (hb1.alloc h1 _) nq).trans (hb2.mono (by simp; omega))
  clear hb1 hb2 hcl
  unfold wv
  go_wp2_with fail
  go_ret
  exact ⟨by simp, HB.out.alloc (by have := HB.out.size; omega) _⟩
set_option maxRecDepth 100000 in
set_option maxHeartbeats 1000000 in
theorem walk_end (s : ByteArray) (i : Nat) (hs : s.size ≤ 1048575) (hle : i ≤ s.size) (hi : ¬ i < s.size) (w : World) :
    Calls Try.prog 4 #[.string s, .int .i64 (i : Int)] w fun e w' => e = .returned (.bool true) ∧ Below w.heap.size w w' := by
  have hn94 : ¬ (i < s.size ∧ Pl.bt s i = 94) := by omega
  have HN94 := hide hn94
  clear hn94
  have i0 : ¬ (i : Int) < (s.size : Int) := by omega
  have i1 : (i : Int) ≤ (s.size : Int) := by omega
  have hsg : IntKind.u64.signed = false := rfl
  go_enter Try.func4, Try.ntmps4
  go_wp2_with (first | (go_at_call 11; go_in))
  obtain ⟨P, hP⟩ : ∃ P, P = Pl.setP s i := ⟨_, rfl⟩
  obtain ⟨n, hn⟩ : ∃ n, n = Pl.setN s i := ⟨_, rfl⟩
  have hnl : n ≤ s.size := by rw [hn]; exact (Pl.setN_le s i (by omega)).2
  have HPN := hide (And.intro hP hn)
  refine (zzset_any s i (by omega) (by omega) _).mono ?_
  rw [← hP, ← hn]
  clear hP hn
  rintro e w1 ⟨rfl, hb1⟩
  unfold wv
  go_wp2_with fail
  go_quiet (fail)
  go_wp2_with fail
  have hput := Pl.put_made s i (by omega)
  obtain ⟨q, hq⟩ : ∃ q, q = s.extract 0 i ++ { data := #[94] } ++ s.extract i s.size := ⟨_, rfl⟩
  rw [← hq] at hput ⊢
  clear hq
  obtain ⟨q1, q2⟩ := Pl.put_set hput (by omega) HN94.out
  have q3 := fun k => Pl.put_word hput (by omega) HN94.out k
  obtain ⟨P', hP'⟩ : ∃ P', P' = Pl.setP q i := ⟨_, rfl⟩
  have hqs := hput.1
  have HZ := zzset_any q i (by omega) (by omega)
  rw [← hP', q2, ← HPN.out.2] at HZ
  rw [← hP', ← HPN.out.1] at q3
  have x0 := xor_word P P' 0 (q3 0)
  have x1 := xor_word P P' 1 (q3 1)
  have x2 := xor_word P P' 2 (q3 2)
  have x3 := xor_word P P' 3 (q3 3)
  refine (HZ _).mono ?_
  clear HZ q1 q2 q3 hP' hput hqs HPN
  rintro e w2 ⟨rfl, hb2⟩
  have hcl : Cls w2 w1.heap.size 24 P := by
    unfold Cls
    rw [hb2.block _ (by simp)]
    simp only [wv]
    show (w1.heap.push _)[w1.heap.size]? = _
    simp
  have hz : w1.heap.size < w2.heap.size := hcl.lt
  have c0 := hcl.cell 0 (by omega)
  have c1 := hcl.cell 1 (by omega)
  have c2 := hcl.cell 2 (by omega)
  have c3 := hcl.cell 3 (by omega)
  have HB : Hid (Below w.heap.size w w2) := by
    have h1 := hb1.size
    exact (below_drewN (hb1.alloc h1 _) nq).trans (hb2.mono (by simp; omega))
  clear hb1 hb2 hcl
  unfold wv
  go_wp2_with fail
  go_ret
  exact ⟨by simp, HB.out.alloc (by have := HB.out.size; omega) _⟩

set_option maxHeartbeats 1000000 in
theorem walk (a0 : ByteArray) (a1 : Int) (w0 : a0.size ≤ maxLen) (w1 : (Lit.int .i64 a1).wf = true) (w : World) :
    Calls Try.prog 4 #[.string a0, .int .i64 a1] w fun e w' => e = .returned (.bool true) ∧ Below w.heap.size w w' := by
  unfold maxLen at w0
  clear w1
  by_cases hA : 1048576 < a0.size
  · go_enter Try.func4, Try.ntmps4
    go_wp2_with (first | (go_at_call 11; go_in))
    go_ret
    exact ⟨rfl, Below.refl _ _⟩
  by_cases hB : 1048575 < a0.size
  · go_enter Try.func4, Try.ntmps4
    go_wp2_with (first | (go_at_call 11; go_in))
    go_ret
    exact ⟨rfl, Below.refl _ _⟩
  by_cases hC : a1 < 0
  · go_enter Try.func4, Try.ntmps4
    go_wp2_with (first | (go_at_call 11; go_in))
    go_ret
    exact ⟨rfl, Below.refl _ _⟩
  obtain ⟨i, rfl⟩ := Int.eq_ofNat_of_zero_le (by omega : 0 ≤ a1)
  by_cases hD : a0.size < i
  · go_enter Try.func4, Try.ntmps4
    go_wp2_with (first | (go_at_call 11; go_in))
    go_ret
    exact ⟨rfl, Below.refl _ _⟩
  by_cases hE : i < a0.size
  · by_cases hF : ((a0[i]'hE).toNat : Int) = 94
    · have hb94 : (((a0[i]'hE).toNat : Int) == 94) = true := by rw [beq_iff_eq]; exact hF
      clear hF
      go_enter Try.func4, Try.ntmps4
      go_wp2_with (first | (go_at_call 11; go_in))
      go_ret
      exact ⟨rfl, Below.refl _ _⟩
    · exact walk_in a0 i (by omega) hE hF w
  · exact walk_end a0 i (by omega) (by omega) hE w

/-! ### THE ROW's STEP: WRITTEN OUT: LEAVE IT -/
set_option maxRecDepth 100000 in
theorem lifted (os : Os) (started : os.Started) (H : Type) (enc : TypeId × Value → H) :
    ReturnsInHanded {} Try.checked os 4 .any (Rows.fnSetCaretComplementsSpec.pre6 enc Try.prog Try.f4 Rows.fnSetCaretComplementsRow.domain false) (Rows.fnSetCaretComplementsSpec.post enc Try.prog Try.f4 false true false false) := by
  refine returnsInHanded_of_change (C := Try.checked) own started (by kernel_rfl) Try.func4
    (ChangeSpec.witness6 (enc := enc) (C := Try.checked) false ⟨#[], #[.string ByteArray.empty, .int .i64 0], []⟩ 8 (by kernel_rfl) (by kernel_rfl) (by kernel_rfl) (by kernel_rfl)) ?_
  intro W base args ds gs before hval0 hW hcnd _
  have hval : ∀ (j : Nat) t v, Try.f4.params[j]? = some t → args[j]? = some v → Value.okWide Try.prog W .any base t v := hval0
  have hW' := hW
  obtain ⟨p, q, hA0, hV, rfl, hfz, hnd⟩ := hW
  have hA : DataW.TrodAll enc Try.prog W 0 (fun _ => true) true Try.f4.params.toList args.toList ds p := hA0
  rw [Try.params4] at hA hval
  obtain ⟨v0, vs0, d0, ds0, p0, q0, hargs, rfl, rfl, h0, r0⟩ := trodAll_cons hA
  obtain ⟨v1, vs1, d1, ds1, p1, q1, rfl, rfl, rfl, h1, r1⟩ := trodAll_cons r0
  obtain ⟨rfl, rfl, rfl⟩ := trodAll_nil r1
  obtain rfl : args = #[v0, v1] := by cases args; simp_all
  obtain ⟨rfl, rfl⟩ := trodVars_none hV
  obtain ⟨a0, rfl, rfl, rfl, w0⟩ := open_string Try.underlying9 (hval 0 9 v0 rfl rfl) h0
  obtain ⟨a1, rfl, rfl, rfl, w1⟩ := open_int Try.underlying3 (hval 1 3 v1 rfl rfl) h1
  clear hA0 hval0
  refine (walk a0 a1 w0 w1 W).mono fun e W' ⟨he, bel⟩ => ?_
  subst he
  exact ⟨_, rfl, _, _, _, [], _, [], hW', trodAll_mk1 (shut_bool Try.underlying4 _), (trodAll_cons_mk (shut_string Try.underlying9 w0) (trodAll_cons_mk (shut_int Try.underlying3 w1) trodAll_mk0)), rfl, bel.frame _, fun h => by cases h⟩

theorem over : Rows.fnSetCaretComplementsRow.holds Try.pinned (OpenSpec.ofChange Rows.fnSetCaretComplementsSpec) :=
  OpenClaim.holds_of_wide 4 Try.f4 rfl rfl rfl rfl rfl rfl rfl ⟨rfl, rfl, rfl, rfl, rfl⟩ rfl rfl rfl rfl rfl (by kernel_rfl) Try.func4 (by kernel_rfl)
    (of_decide_eq_true (by kernel_rfl)) (by unfold Func.isWrapper; first | (rw [if_pos (by decide +kernel)]; kernel_rfl) | (rw [if_neg (by decide +kernel)]; exact ⟨rfl, rfl⟩))
    (fun os started H enc _ => lifted os started H enc)

/-- ████ THE STATEMENT ████ -/
theorem proved : Rows.FnSetCaretComplementsSaid :=
  over
#print axioms proved
end Go.Proofs.Qxb6603747a.fnSetCaretComplements
