/-
  'Rows.FnSetMatchesGrammarModelSaid': the walk of the law out of its callees' contracts; the frame is the given shell's, its end by 'Below'.
-/
import Derived.Test.Qxb6603747aRows
import Derived.Test.Qxb6603747aModel
import Derived.Test.Qxb6603747aRowF
import Derived.Deep.RegionHeld3
import Derived.ProofKit
import Derived.OpenShut
import Derived.ShutString
import Derived.ChangeOld
import Derived.Below
namespace Go.Proofs.Qxb6603747a.fnSetMatchesGrammarModel
open Go.ChangeShapes Go.WideShapes Go.ChangeAt Go.RowKit
open Go.ChangeMaps (open_string shut_string)
set_option linter.unusedVariables false
set_option linter.unusedSimpArgs false

theorem own : ownKnob Try.prog.godebug = none := by kernel_rfl

theorem hasBit_any (P : Nat → Bool) (v : Nat) (hv : v < 256) (w : World) :
    Calls Try.prog 10 #[.agg #[wv P 0, wv P 1, wv P 2, wv P 3], .int .i64 (v : Int)] w fun e w' => e = .returned (.bool (P v)) ∧ w' = w.alloc (.cells #[wv P 0, wv P 1, wv P 2, wv P 3] 24) := by
  have hcl : Cls (w.alloc (.cells #[wv P 0, wv P 1, wv P 2, wv P 3] 24)) w.heap.size 24 P := heap_alloc_new w _
  have hc := hcl.cell (v / 64) (by omega)
  have hb := bit_word (Pl.word P (v / 64)) (v % 64) (Pl.word_lt _ _)
  have e : (Pl.word P (v / 64)).testBit (v % 64) = P v := by
    rw [Pl.word_testBit, show 64 * (v / 64) + v % 64 = v by omega]
    simp; intro; omega
  rw [e] at hb
  have HB := hide hb
  clear hb e hcl
  go_enter Try.func10, Try.ntmps10
  go_wp2_with fail
  go_ret
  exact ⟨by rw [HB.out]; rfl, rfl⟩

set_option maxRecDepth 100000 in
set_option maxHeartbeats 2000000 in
theorem core (s : ByteArray) (i : Nat) (hs : s.size ≤ 1048576) (hi : i ≤ s.size) (w : World) :
    Calls Try.prog 3 #[.string s, .int .i64 (i : Int)] w fun e w' => e = .returned (.bool true) ∧ Below w.heap.size w w' := by
  have H1 := zzset_any s i hs hi
  have H2 := model_any s i hs hi
  generalize Pl.setP s i = P at H1 H2
  generalize Pl.setN s i = n at H1 H2
  have HH1 := hide H1
  have HH2 := hide H2
  have i1 : (i : Int) ≤ (s.size : Int) := by omega
  clear H1 H2
  go_enter Try.func3, Try.ntmps3
  go_wp2_with (first | (go_at_call 7; go_in))
  refine (HH1.out _).mono ?_
  rintro e w1 ⟨rfl, hb1⟩
  unfold wv
  go_wp2_with fail
  refine (HH2.out _).mono ?_
  rintro e w2 ⟨cs, rfl, hbo, hb2⟩
  have z1 := zero27
  have hcl : Cls w2 w1.heap.size 24 P := by
    unfold Cls
    rw [hb2.block _ (by simp)]
    exact heap_alloc_new w1 _
  have hz12 : w1.heap.size < w2.heap.size := hcl.lt
  have HB2 := hide ((hb1.alloc hb1.size _).trans (hb2.mono (by simp; have := hb1.size; omega)))
  have hth : (w2.alloc (.cells Z27 27)).there w2.heap.size 0 cs.size := by
    intro x hx
    have hh : (w2.alloc (.cells Z27 27)).heap[w2.heap.size]? = some (.cells Z27 27) := heap_alloc_new w2 _
    rw [Nat.zero_add, cell_of_row _ _ x Z27 27 _ hh, frozen_of_row _ _ x Z27 27 hh]
    have := hbo.1
    simp [Z27]; omega
  have hone : cs.all (·.oneCell') = true := by
    rw [Array.all_eq_true]
    intro x hx
    have := hbo.2 x (by have := hbo.1; omega)
    rw [Array.getElem?_eq_getElem hx] at this
    rw [Option.some.inj this]
    rfl
  have hi27 : (Try.prog.info? 27).map (·.size) = some cs.size := by rw [hbo.1]; exact info27
  have HRA := hide (World.rangeAt_setCells_same (w2.alloc (.cells Z27 27)) w2.heap.size 0 cs.toList (by simpa using hth))
  have HBB := hide (below_setCells (w := w) w2.heap.size (by have := HB2.out.size; omega) cs.toList 0 _ (HB2.out.alloc HB2.out.size (.cells Z27 27)))
  have HBW := hide (below_setCells (w := w2) w2.heap.size (Nat.le_refl _) cs.toList 0 _ ((Below.refl w2.heap.size w2).alloc (Nat.le_refl _) (.cells Z27 27)))
  clear hb1 hb2 HH1 HH2
  go_wp2_with (refine wpList_store_mid rfl 27 _ _ rfl w2.heap.size 0 cs rfl rfl hth hi27 hone ?_)
  have hst : Cls ((w2.alloc (.cells Z27 27)).setCells w2.heap.size 0 cs.toList) w1.heap.size 24 P := by
    have := HBW.out.block w1.heap.size hz12
    unfold Cls at hcl ⊢
    rw [this]; exact hcl
  have hcells : ∀ v, v < 256 → ((w2.alloc (.cells Z27 27)).setCells w2.heap.size 0 cs.toList).cell? ⟨w2.heap.size, v, none⟩ = some (.bool (P v)) := by
    intro v hv
    have := HRA.out v (.bool (P v)) (by simpa using hbo.2 v hv)
    rwa [Nat.zero_add] at this
  have hsz : w2.heap.size < ((w2.alloc (.cells Z27 27)).setCells w2.heap.size 0 cs.toList).heap.size := by
    have h := hcells 0 (by omega)
    exact World.block_lt_of_cell? _ _ h
  have hbit := fun v (hv : v < 256) wx => hasBit_any P v hv wx
  unfold wv at hbit
  have HBIT := hide hbit
  clear hcl z1 HB2 hth hone hi27 HRA HBW hbit hbo
  generalize (w2.alloc (.cells Z27 27)).setCells w2.heap.size 0 cs.toList = w3 at *
  go_loopw [9] (fun t wr => ∃ k : Nat, t = .int .i64 k ∧ k ≤ 256 ∧ Cls wr w1.heap.size 24 P ∧ Hid (∀ v, v < 256 → wr.cell? ⟨w2.heap.size, v, none⟩ = some (.bool (P v))) ∧ w2.heap.size < wr.heap.size ∧ Below w.heap.size w wr) (fun t _ => 256 - (intOf t).toNat)
  case atStart => exact ⟨0, rfl, Nat.zero_le _, hst, hcells, hsz, HBB.out⟩
  case round =>
    obtain ⟨k, rfl, hk, hc, HM, hsr, hbr⟩ := hrel
    clear hst hcells hsz HBB
    by_cases hlt : k < 256
    · have c0 := hc.cell 0 (by omega)
      have c1 := hc.cell 1 (by omega)
      have c2 := hc.cell 2 (by omega)
      have c3 := hc.cell 3 (by omega)
      have cm := HM.out k hlt
      have i0 : (k : Int) < 256 := by omega
      have hz1r : w1.heap.size < wr.heap.size := by omega
      have HC := hide hc
      clear hc
      go_wp2_with fail
      go_region_held3 (fun w' => w'.cell? ⟨w1.heap.size, 0, none⟩ = some (.int .u64 (Pl.word P 0 : Nat)) ∧ w'.cell? ⟨w1.heap.size, 1, none⟩ = some (.int .u64 (Pl.word P 1 : Nat)) ∧ w'.cell? ⟨w1.heap.size, 2, none⟩ = some (.int .u64 (Pl.word P 2 : Nat)) ∧ w'.cell? ⟨w1.heap.size, 3, none⟩ = some (.int .u64 (Pl.word P 3 : Nat)) ∧ w'.cell? ⟨w2.heap.size, k, none⟩ = some (.bool (P k))) (simp [go_sem, World.cell?_alloc_past, *])
        ((go_at_call 10; refine (HBIT.out k hlt _).mono ?_; rintro e w' ⟨rfl, rfl⟩))
      all_goals go_wp2_with fail
      go_roundw
      case rel =>
        refine ⟨k + 1, by go_num, by omega, ?_, fun v hv => ?_, by simp; omega, (hbr.alloc hbr.size _).drew⟩
        · have := Below.heap_alloc wr (.cells #[.int .u64 (Pl.word P 0 : Nat), .int .u64 (Pl.word P 1 : Nat), .int .u64 (Pl.word P 2 : Nat), .int .u64 (Pl.word P 3 : Nat)] 24) w1.heap.size hz1r
          exact this.trans HC.out
        · exact (World.cell?_alloc_past (w := wr) _ _ _ hsr).trans (HM.out v hv)
      case measure => simp [intOf]; omega
    · go_wp2_with fail
      go_ret
      exact ⟨rfl, hbr⟩

set_option maxHeartbeats 1000000 in
theorem walk (a0 : ByteArray) (a1 : Int) (w0 : a0.size ≤ maxLen) (w1 : (Lit.int .i64 a1).wf = true) (w : World) :
    Calls Try.prog 3 #[.string a0, .int .i64 a1] w fun e w' => e = .returned (.bool true) ∧ Below w.heap.size w w' := by
  unfold maxLen at w0
  clear w1
  by_cases hA : 1048576 < a0.size
  · go_enter Try.func3, Try.ntmps3
    go_wp2_with (first | (go_at_call 7; go_in))
    go_ret
    exact ⟨rfl, Below.refl _ _⟩
  by_cases hC : a1 < 0
  · go_enter Try.func3, Try.ntmps3
    go_wp2_with (first | (go_at_call 7; go_in))
    go_ret
    exact ⟨rfl, Below.refl _ _⟩
  obtain ⟨i, rfl⟩ := Int.eq_ofNat_of_zero_le (by omega : 0 ≤ a1)
  by_cases hD : a0.size < i
  · go_enter Try.func3, Try.ntmps3
    go_wp2_with (first | (go_at_call 7; go_in))
    go_ret
    exact ⟨rfl, Below.refl _ _⟩
  exact core a0 i (by omega) (by omega) w

/-! ### THE ROW's STEP: WRITTEN OUT: LEAVE IT -/
set_option maxRecDepth 100000 in
theorem lifted (os : Os) (started : os.Started) (H : Type) (enc : TypeId × Value → H) :
    ReturnsInHanded {} Try.checked os 3 .any (Rows.fnSetMatchesGrammarModelSpec.pre6 enc Try.prog Try.f3 Rows.fnSetMatchesGrammarModelRow.domain false) (Rows.fnSetMatchesGrammarModelSpec.post enc Try.prog Try.f3 false true false false) := by
  refine returnsInHanded_of_change (C := Try.checked) own started (by kernel_rfl) Try.func3
    (ChangeSpec.witness6 (enc := enc) (C := Try.checked) false ⟨#[], #[.string ByteArray.empty, .int .i64 0], []⟩ 8 (by kernel_rfl) (by kernel_rfl) (by kernel_rfl) (by kernel_rfl)) ?_
  intro W base args ds gs before hval0 hW hcnd _
  have hval : ∀ (j : Nat) t v, Try.f3.params[j]? = some t → args[j]? = some v → Value.okWide Try.prog W .any base t v := hval0
  have hW' := hW
  obtain ⟨p, q, hA0, hV, rfl, hfz, hnd⟩ := hW
  have hA : DataW.TrodAll enc Try.prog W 0 (fun _ => true) true Try.f3.params.toList args.toList ds p := hA0
  rw [Try.params3] at hA hval
  obtain ⟨v0, vs0, d0, ds0, p0, q0, hargs, rfl, rfl, h0, r0⟩ := trodAll_cons hA
  obtain ⟨v1, vs1, d1, ds1, p1, q1, rfl, rfl, rfl, h1, r1⟩ := trodAll_cons r0
  obtain ⟨rfl, rfl, rfl⟩ := trodAll_nil r1
  obtain rfl : args = #[v0, v1] := by cases args; simp_all
  obtain ⟨rfl, rfl⟩ := trodVars_none hV
  obtain ⟨a0, rfl, rfl, rfl, w0⟩ := open_string Try.underlying9 (hval 0 9 v0 rfl rfl) h0
  obtain ⟨a1, rfl, rfl, rfl, w1⟩ := open_int Try.underlying3 (hval 1 3 v1 rfl rfl) h1
  clear hA0 hval0
  refine (walk a0 a1 w0 w1 W).mono fun e W' ⟨he, bel⟩ => ?_
  subst he
  exact ⟨_, rfl, _, _, _, [], _, [], hW', trodAll_mk1 (shut_bool Try.underlying4 _), (trodAll_cons_mk (shut_string Try.underlying9 w0) (trodAll_cons_mk (shut_int Try.underlying3 w1) trodAll_mk0)), rfl, bel.frame _, fun h => by cases h⟩

theorem over : Rows.fnSetMatchesGrammarModelRow.holds Try.pinned (OpenSpec.ofChange Rows.fnSetMatchesGrammarModelSpec) :=
  OpenClaim.holds_of_wide 3 Try.f3 rfl rfl rfl rfl rfl rfl rfl ⟨rfl, rfl, rfl, rfl, rfl⟩ rfl rfl rfl rfl rfl (by kernel_rfl) Try.func3 (by kernel_rfl)
    (of_decide_eq_true (by kernel_rfl)) (by unfold Func.isWrapper; first | (rw [if_pos (by decide +kernel)]; kernel_rfl) | (rw [if_neg (by decide +kernel)]; exact ⟨rfl, rfl⟩))
    (fun os started H enc _ => lifted os started H enc)

/-- ████ THE STATEMENT ████ -/
theorem proved : Rows.FnSetMatchesGrammarModelSaid :=
  over
#print axioms proved
end Go.Proofs.Qxb6603747a.fnSetMatchesGrammarModel
