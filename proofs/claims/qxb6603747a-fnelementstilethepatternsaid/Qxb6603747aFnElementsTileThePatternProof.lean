/-
  'Rows.FnElementsTileThePatternSaid': the walk of the law out of its callees' contracts; the frame is the given shell's, its end by 'Below'.
-/
import Derived.Test.Qxb6603747aRows
import Derived.Test.Qxb6603747aElem
import Derived.Laws.StructEq
import Derived.ProofKit
import Derived.OpenShut
import Derived.ShutString
import Derived.ChangeOld
import Derived.Below
namespace Go.Proofs.Qxb6603747a.fnElementsTileThePattern
open Go.ChangeShapes Go.WideShapes Go.ChangeAt Go.RowKit
open Go.ChangeMaps (open_string shut_string)
set_option linter.unusedVariables false
set_option linter.unusedSimpArgs false

theorem own : ownKnob Try.prog.godebug = none := by kernel_rfl

set_option maxRecDepth 100000 in
set_option maxHeartbeats 1000000 in
theorem zzelem_any (s : ByteArray) (i : Nat) (hs : s.size ≤ 1048576) (hi : i < s.size) (w : World) :
    Calls Try.prog 13 #[.string s, .int .i64 (i : Int)] w fun e w' => EPost s i w e w' := by
  have HC := hide (element_any s i hs hi)
  go_enter Try.func13, Try.ntmps13
  go_wp2_with fail
  refine (HC.out _).mono ?_
  rintro e w1 ⟨P, n, rfl, hn1, hn2, hn3, hb1⟩
  have HN3 := hide hn3
  have hz : w.heap.size < w1.heap.size := by have := hb1.size; simp at this; omega
  have hcl : Cls w1 w.heap.size 24 (fun _ => false) := by
    unfold Cls
    rw [hb1.block _ (by simp)]
    simp only [wv, Pl.word_none]
    show (w.heap.push _)[w.heap.size]? = _
    simp
  have c0 := hcl.cell 0 (by omega)
  have c1 := hcl.cell 1 (by omega)
  have c2 := hcl.cell 2 (by omega)
  have c3 := hcl.cell 3 (by omega)
  have f0 := hcl.free 0
  have f1 := hcl.free 1
  have f2 := hcl.free 2
  have f3 := hcl.free 3
  have HB := hide hb1
  clear hb1 hcl hn3 HC
  unfold wv
  go_wp2_with fail
  have h0 : Below w.heap.size w w1 := ((Below.refl _ _).alloc (Nat.le_refl _) _).trans (HB.out.mono (by simp))
  refine bodyPost_ret (v := .tuple #[.agg #[wv P 0, wv P 1, wv P 2, wv P 3], .int .i64 (n : Int)]) (by simp [results, Try.results13, go_sem, c0, c1, c2, c3, hz, wv]) rfl ⟨P, n, rfl, hn1, hn2, HN3.out, ?_⟩
  exact (below_again (p := P) h0).alloc (by have := (below_again (p := P) h0).size; omega) _

theorem part23 (cs : Array Value) (off : Nat) (k : IntKind) (n : Int) (w : World) (h : cs[off]? = some (.int k n)) : (part 23 cs off).run Try.prog w = .ok (.int k n) w := by
  simp [part, isAgg, run_underlying Try.underlying23, h]
theorem size23 (w : World) : (sizeOf 23).run Try.prog w = .ok 1 w := by kernel_rfl

theorem eq4 (a b c d : Int) (w : World) : (Op.equalIn 10000 24 (.agg #[.int .u64 a, .int .u64 b, .int .u64 c, .int .u64 d]) (.agg #[.int .u64 0, .int .u64 0, .int .u64 0, .int .u64 0])).run Try.prog w =
    .ok (a == 0 && (b == 0 && (c == 0 && d == 0))) w := by
  have h23 : ∀ (x y : Int) (wx : World), (Op.equalIn 9999 23 (.int .u64 x) (.int .u64 y)).run Try.prog wx = .ok (x == y) wx := fun x y wx => run_equalIn_int (P := Try.prog) wx 9998 23 .u64 .u64 x y Try.underlying23
  have e := fun (wx : World) => run_underlying Try.underlying24 (w := wx)
  have p0 := fun wx => part23 #[.int .u64 a, .int .u64 b, .int .u64 c, .int .u64 d] 0 .u64 a wx rfl
  have q0 := fun wx => part23 #[.int .u64 0, .int .u64 0, .int .u64 0, .int .u64 0] 0 .u64 0 wx rfl
  have p1 := fun wx => part23 #[.int .u64 a, .int .u64 b, .int .u64 c, .int .u64 d] 1 .u64 b wx rfl
  have q1 := fun wx => part23 #[.int .u64 0, .int .u64 0, .int .u64 0, .int .u64 0] 1 .u64 0 wx rfl
  have p2 := fun wx => part23 #[.int .u64 a, .int .u64 b, .int .u64 c, .int .u64 d] 2 .u64 c wx rfl
  have q2 := fun wx => part23 #[.int .u64 0, .int .u64 0, .int .u64 0, .int .u64 0] 2 .u64 0 wx rfl
  have p3 := fun wx => part23 #[.int .u64 a, .int .u64 b, .int .u64 c, .int .u64 d] 3 .u64 d wx rfl
  have q3 := fun wx => part23 #[.int .u64 0, .int .u64 0, .int .u64 0, .int .u64 0] 3 .u64 0 wx rfl
  rw [show (10000 : Nat) = 9999 + 1 from rfl, Op.equalIn]
  simp only [Sem.run_bind, e, Result.andThen_ok, size23]
  rw [Std.Legacy.Range.forIn_eq_forIn_range']
  simp [List.range', h23, p0, p1, p2, p3, q0, q1, q2, q3]
  by_cases ha : a = 0
  · by_cases hb : b = 0
    · by_cases hc : c = 0
      · by_cases hd : d = 0 <;> simp [ha, hb, hc, hd]
      · simp [ha, hb, hc]
    · simp [ha, hb]
  · simp [ha]

/-- A set that holds a value is not the empty one. -/
theorem some_word (P : Nat → Bool) (v : Nat) (hv : v < 256) (h : P v = true) (w : World) :
    (Op.equalIn 10000 24 (.agg #[.int .u64 (Pl.word P 0 : Nat), .int .u64 (Pl.word P 1 : Nat), .int .u64 (Pl.word P 2 : Nat), .int .u64 (Pl.word P 3 : Nat)]) (.agg #[.int .u64 0, .int .u64 0, .int .u64 0, .int .u64 0])).run Try.prog w = .ok false w := by
  rw [eq4]
  have hb : (Pl.word P (v / 64)).testBit (v % 64) = true := by
    rw [Pl.word_testBit, show 64 * (v / 64) + v % 64 = v by omega, h]
    simp; omega
  have hn : Pl.word P (v / 64) ≠ 0 := by
    intro e
    rw [e] at hb
    simp at hb
  have hq : v / 64 = 0 ∨ v / 64 = 1 ∨ v / 64 = 2 ∨ v / 64 = 3 := by omega
  congr 1
  rcases hq with e | e | e | e <;> rw [e] at hn <;> simp [hn]

set_option maxRecDepth 100000 in
set_option maxHeartbeats 2000000 in
theorem core (s : ByteArray) (hs : s.size ≤ 1048576) (w : World) :
    Calls Try.prog 5 #[.string s] w fun e w' => e = .returned (.bool true) ∧ Below w.heap.size w w' := by
  go_enter Try.func5, Try.ntmps5
  go_wp2_with (first | (go_at_call 12; go_in))
  go_loopw [3] (fun t wr => ∃ k : Nat, t = .int .i64 k ∧ k ≤ s.size ∧ Below w.heap.size w wr) (fun t _ => s.size - (intOf t).toNat)
  case atStart => exact ⟨0, rfl, Nat.zero_le _, Below.refl _ _⟩
  case round =>
    obtain ⟨k, rfl, hk, hb⟩ := hrel
    by_cases hlt : k < s.size
    · have i0 : (k : Int) < (s.size : Int) := by omega
      by_cases h42 : (s[k].toNat : Int) = 42
      · have b42 : ((s[k].toNat : Int) == 42) = true := by rw [beq_iff_eq]; exact h42
        clear h42
        go_wp2_with fail
        go_roundw
        case rel => exact ⟨k + 1, by go_num, by omega, hb⟩
        case measure => simp [intOf]; omega
      · have b42 : ((s[k].toNat : Int) == 42) = false := by rw [beq_eq_false_iff_ne]; exact h42
        clear h42
        go_wp2_with fail
        refine (zzelem_any s k hs hlt _).mono ?_
        rintro e w1 ⟨P, n, rfl, hn1, hn2, hn3, hb1⟩
        have i1 : ¬ (n : Int) ≤ (k : Int) := by omega
        have i2 : ¬ (s.size : Int) < (n : Int) := by omega
        have HB := hide (hb.trans (hb1.mono hb.size))
        clear hb hb1
        by_cases h91 : (s[k].toNat : Int) = 91
        · have b91 : ((s[k].toNat : Int) != 91) = false := by rw [bne_eq_false_iff_eq]; exact h91
          clear h91 hn3
          unfold wv
          go_wp2_with fail
          refine ⟨?_, ?_⟩
          · (repeat apply Exists.intro)
            exact ⟨⟨n, rfl, hn2, HB.out.alloc HB.out.size _⟩, rfl⟩
          · simp [intOf]; omega
        · have b91 : ((s[k].toNat : Int) != 91) = true := by rw [bne_iff_ne]; exact h91
          obtain ⟨v, hv, hPv⟩ := hn3 (by rw [← Pl.bt_eq s k hlt]; omega)
          have heq := some_word P v hv hPv
          clear h91 hn3 hPv
          unfold wv
          go_wp2_with fail
          refine ⟨?_, ?_⟩
          · (repeat apply Exists.intro)
            exact ⟨⟨n, rfl, hn2, HB.out.alloc HB.out.size _⟩, rfl⟩
          · simp [intOf]; omega
    · have he : ((k : Int) == (s.size : Int)) = true := by rw [beq_iff_eq]; omega
      go_wp2_with fail
      go_ret
      exact ⟨rfl, hb⟩

theorem walk (a0 : ByteArray) (w0 : a0.size ≤ maxLen) (w : World) :
    Calls Try.prog 5 #[.string a0] w fun e w' => e = .returned (.bool true) ∧ Below w.heap.size w w' := by
  unfold maxLen at w0
  by_cases hA : 1048576 < a0.size
  · go_enter Try.func5, Try.ntmps5
    go_wp2_with (first | (go_at_call 12; go_in))
    go_ret
    exact ⟨rfl, Below.refl _ _⟩
  exact core a0 (by omega) w

/-! ### THE ROW's STEP: WRITTEN OUT: LEAVE IT -/
set_option maxRecDepth 100000 in
theorem lifted (os : Os) (started : os.Started) (H : Type) (enc : TypeId × Value → H) :
    ReturnsInHanded {} Try.checked os 5 .any (Rows.fnElementsTileThePatternSpec.pre6 enc Try.prog Try.f5 Rows.fnElementsTileThePatternRow.domain false) (Rows.fnElementsTileThePatternSpec.post enc Try.prog Try.f5 false true false false) := by
  refine returnsInHanded_of_change (C := Try.checked) own started (by kernel_rfl) Try.func5
    (ChangeSpec.witness6 (enc := enc) (C := Try.checked) false ⟨#[], #[.string ByteArray.empty], []⟩ 8 (by kernel_rfl) (by kernel_rfl) (by kernel_rfl) (by kernel_rfl)) ?_
  intro W base args ds gs before hval0 hW hcnd _
  have hval : ∀ (j : Nat) t v, Try.f5.params[j]? = some t → args[j]? = some v → Value.okWide Try.prog W .any base t v := hval0
  have hW' := hW
  obtain ⟨p, q, hA0, hV, rfl, hfz, hnd⟩ := hW
  have hA : DataW.TrodAll enc Try.prog W 0 (fun _ => true) true Try.f5.params.toList args.toList ds p := hA0
  rw [Try.params5] at hA hval
  obtain ⟨v0, vs0, d0, ds0, p0, q0, hargs, rfl, rfl, h0, r0⟩ := trodAll_cons hA
  obtain ⟨rfl, rfl, rfl⟩ := trodAll_nil r0
  obtain rfl : args = #[v0] := by cases args; simp_all
  obtain ⟨rfl, rfl⟩ := trodVars_none hV
  obtain ⟨a0, rfl, rfl, rfl, w0⟩ := open_string Try.underlying9 (hval 0 9 v0 rfl rfl) h0
  clear hA0 hval0
  refine (walk a0 w0 W).mono fun e W' ⟨he, bel⟩ => ?_
  subst he
  exact ⟨_, rfl, _, _, _, [], _, [], hW', trodAll_mk1 (shut_bool Try.underlying4 _), (trodAll_cons_mk (shut_string Try.underlying9 w0) trodAll_mk0), rfl, bel.frame _, fun h => by cases h⟩

theorem over : Rows.fnElementsTileThePatternRow.holds Try.pinned (OpenSpec.ofChange Rows.fnElementsTileThePatternSpec) :=
  OpenClaim.holds_of_wide 5 Try.f5 rfl rfl rfl rfl rfl rfl rfl ⟨rfl, rfl, rfl, rfl, rfl⟩ rfl rfl rfl rfl rfl (by kernel_rfl) Try.func5 (by kernel_rfl)
    (of_decide_eq_true (by kernel_rfl)) (by unfold Func.isWrapper; first | (rw [if_pos (by decide +kernel)]; kernel_rfl) | (rw [if_neg (by decide +kernel)]; exact ⟨rfl, rfl⟩))
    (fun os started H enc _ => lifted os started H enc)

/-- ████ THE STATEMENT ████ -/
theorem proved : Rows.FnElementsTileThePatternSaid :=
  over
#print axioms proved
end Go.Proofs.Qxb6603747a.fnElementsTileThePattern
