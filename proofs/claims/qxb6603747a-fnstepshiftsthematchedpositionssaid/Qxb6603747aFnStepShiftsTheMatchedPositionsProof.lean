/-
  'Rows.FnStepShiftsTheMatchedPositionsSaid': the walk of the law out of its callees' contracts; the frame is the given shell's.
-/
import Derived.Test.Qxb6603747aRows
import Derived.Test.Qxb6603747aZzstep
import Derived.Test.Qxb6603747aDom
import Derived.WalkKit
import Derived.ProofKit
import Derived.OpenShut
import Derived.ShutString
import Derived.ChangeOld
import Derived.Below
namespace Go.Proofs.Qxb6603747a.fnStepShiftsTheMatchedPositions
open Go.ChangeShapes Go.WideShapes Go.ChangeAt Go.RowKit
open Go.ChangeMaps (open_string shut_string)
set_option linter.unusedVariables false

theorem own : ownKnob Try.prog.godebug = none := by kernel_rfl
theorem laidOut : laidOutB Try.prog = true := by kernel_rfl

/-- WHAT THE WALK IS TOLD OF A SLICE OF INTEGERS THAT CAME IN: it is nil; or it leads to a row of 'cap' cells, the numbers 'zs' (the first 'len' are its elements, the rest its spare room), each fitting its kind. -/
def IsRow (k : IntKind) (w : World) (a : Option Addr) (len cap : Nat) (zs : List Int) : Prop :=
  (a = none ∧ len = 0 ∧ cap = 0 ∧ zs = []) ∨
  ∃ x, a = some x ∧ len ≤ cap ∧ cap ≤ maxLen ∧ zs.length = cap ∧ (∀ i, i < zs.length → w.cell? (x.add i) = some (.int k (zs.getD i 0))) ∧ ∀ n ∈ zs, (Lit.int k n).wf = true

/-- The words of a row, as numbers. -/
def wd (zs : List Int) (i : Nat) : Nat := (zs.getD i 0).toNat

theorem row_open {w : World} {a : Option Addr} {len cap : Nat} {zs : List Int} (h : IsRow .u64 w a len cap zs) :
    len ≤ 9223372036854775807 ∧ (1 ≤ len → ∃ b off, a = some ⟨b, off, none⟩ ∧ ∀ i, i < len → w.cell? ⟨b, off + i, none⟩ = some (.int .u64 (wd zs i : Nat))) ∧ ∀ i, wd zs i < 2 ^ 64 := by
  have hb : (∀ n ∈ zs, (Lit.int .u64 n).wf = true) → ∀ i, 0 ≤ zs.getD i 0 ∧ zs.getD i 0 < 2 ^ 64 := by
    intro hw i
    by_cases hi : i < zs.length
    · have := hw zs[i] (List.getElem_mem hi)
      rw [List.getD_eq_getElem?_getD, List.getElem?_eq_getElem hi]
      simp only [Option.getD_some]
      have h2 := bounds_u64 this
      omega
    · rw [List.getD_eq_getElem?_getD, List.getElem?_eq_none (by omega)]
      simp
  rcases h with ⟨rfl, rfl, rfl, rfl⟩ | ⟨x, rfl, hl, hm, hz, hc, hw⟩
  · exact ⟨by omega, fun h => by omega, fun i => by simp [wd]⟩
  · unfold maxLen at hm
    refine ⟨by omega, fun h => ?_, fun i => ?_⟩
    · obtain ⟨b, off, rfl, hcc⟩ := ints_at hc (by omega)
      refine ⟨b, off, rfl, fun i hi => ?_⟩
      have h0 := hb hw i
      have e : ((wd zs i : Nat) : Int) = zs.getD i 0 := by unfold wd; omega
      rw [e]
      exact hcc i (by omega)
    · have h0 := hb hw i
      unfold wd
      omega

theorem stp_lt (f q : Nat → Nat) (n last j : Nat) (hl : last < n) (hj : j < n) (h : ∀ j, j < n → f j < 2 ^ 64) : Pl.stp f q last j < 18446744073709551616 := by
  unfold Pl.stp
  split
  · exact Pl.new_lt f q j n (by omega) h
  · exact h j hj

set_option maxRecDepth 100000 in
set_option maxHeartbeats 2000000 in
theorem core (n m top b1 o1 cap1 b3 o3 cap3 : Nat) (f q : Nat → Nat) (w : World) (hn1 : 1 ≤ n) (hnm : n ≤ m) (hsum : n + m ≤ 131072) (ht : top < n) (hf : ∀ i, f i < 2 ^ 64) (hq : ∀ i, q i < 2 ^ 64)
    (hz : ∀ j, top < j → j < n → f j = 0)
    (c1 : ∀ i, i < n → w.cell? ⟨b1, o1 + i, none⟩ = some (.int .u64 (f i : Nat))) (c3 : ∀ i, i < m → w.cell? ⟨b3, o3 + i, none⟩ = some (.int .u64 (q i : Nat))) :
    Calls Try.prog 6 #[.int .i64 (n : Int), .slice (some ⟨b1, o1, none⟩) n cap1, .int .i64 (top : Int), .slice (some ⟨b3, o3, none⟩) m cap3] w fun e w' => e = .returned (.bool true) ∧ Below w.heap.size w w' := by
  have hb1 : b1 < w.heap.size := World.block_lt_of_cell? w _ (c1 0 (by omega))
  have hb3 : b3 < w.heap.size := World.block_lt_of_cell? w _ (c3 0 (by omega))
  have HF := hid hf
  have HQ := hid hq
  have HZ := hid hz
  have HC1 := hid c1
  have HC3 := hid c3
  clear hf hq hz c1 c3
  go_enter Try.func6, Try.ntmps6
  go_wp2_with fail
  refine (bytes_any _ _ _ _ _ _ _ _ _ (by omega) (by omega)).mono ?_
  rintro e w' ⟨b, rfl, hw⟩
  obtain rfl := hw.symm
  clear hw
  cases b
  · go_wp2_with fail
    go_ret
    exact ⟨rfl, Below.refl _ _⟩
  go_wp2_with fail
  refine (dom_any (n : Int) (top : Int) (some ⟨b1, o1, none⟩) (some ⟨b3, o3, none⟩) n cap1 m cap3 f w (by omega) (by omega) (fun _ => ⟨b1, o1, rfl, HC1.out⟩)).mono ?_
  rintro e w' ⟨b, rfl, hw, _⟩
  obtain rfl := hw.symm
  clear hw
  cases b
  · go_wp2_with fail
    go_ret
    exact ⟨rfl, Below.refl _ _⟩
  go_wp2_with fail
  refine (clone_any b1 o1 n cap1 f w hb1 (by omega) HC1.out).mono ?_
  rintro e w1 ⟨rfl, hr1, hbl1⟩
  have hs1 := hr1.lt
  have HC3' := hid (fun i (hi : i < m) => (hbl1.cell (p := ⟨b3, o3 + i, none⟩) hb3).trans (HC3.out i hi))
  have HR1 := hid hr1
  have HB1 := hid hbl1
  clear hr1 hbl1 HC1 HC3
  go_wp2_with fail
  refine (clone_any b3 o3 m cap3 q w1 (by omega) (by omega) HC3'.out).mono ?_
  rintro e w2 ⟨rfl, hr2, hbl2⟩
  have hs2 := hr2.lt
  have hr12 := HR1.out.of_block (hbl2.block _ hs1)
  have HR2 := hid hr2
  have HR12 := hid hr12
  have HB2 := hid (HB1.out.trans (hbl2.mono (by omega)))
  clear hr2 hbl2 hr12 HC3' HR1 HB1
  go_wp2_with fail
  refine (clone_any w.heap.size 0 n n f w2 (by omega) (by omega) (fun i hi => by rw [Nat.zero_add]; exact HR12.out.cell i hi)).mono ?_
  rintro e w3 ⟨rfl, hr3, hbl3⟩
  have hs3 := hr3.lt
  have HR13 := hid (HR12.out.of_block (hbl3.block _ (by omega)))
  have HR23 := hid (HR2.out.of_block (hbl3.block _ (by omega)))
  have HB3 := hid (HB2.out.trans (hbl3.mono (by omega)))
  have HR3 := hid hr3
  clear hr3 hbl3 HR12 HR2 HB2
  go_wp2_with fail
  refine (zzstep_any w.heap.size w1.heap.size n m top f q w3 (by omega) hnm (by omega) ht (by omega) (fun j _ => HF.out j) (fun j _ => HQ.out j) HR13.out HR23.out).mono ?_
  obtain ⟨last, hl⟩ : ∃ last, last = min (top + 1) (n - 1) := ⟨_, rfl⟩
  rw [← hl]
  have HL := hid hl
  have hl1 : last < n := by omega
  clear hl
  obtain ⟨tt, htt⟩ : ∃ tt, tt = topOf (Pl.stp f q last last) top last := ⟨_, rfl⟩
  obtain ⟨lv, hlv⟩ : ∃ lv, lv = ((Pl.liv f q (last + 1) : Int) != 0) := ⟨_, rfl⟩
  rw [← htt, ← hlv]
  have HTT := hid htt
  have HLV := hid hlv
  clear htt hlv
  rintro e w4 ⟨rfl, hr4, hg4⟩
  have hr24 := HR23.out.of_block (hg4.block _ (by omega) (by simp; omega))
  have hr34 := HR3.out.of_block (hg4.block _ (by omega) (by simp; omega))
  have HB4 := hid (HB3.out.grown hg4 (by omega) (fun k hk => by cases hk; omega))
  clear hg4 HR13 HR23 HR3 HB3
  have HR4 := hid hr4
  have HR24 := hid hr24
  have HR34 := hid hr34
  clear hr4 hr24 hr34
  go_wp2_with fail
  have bF := fun p (hp : p < 64 * n) => bitAt_any w2.heap.size n n p f w4 HR34.out (by omega) hp (HF.out _)
  have bQ := fun p (hp : p < 64 * m) => bitAt_any w1.heap.size m m p q w4 HR24.out (by omega) hp (HQ.out _)
  have bS := fun p (hp : p < 64 * n) => bitAt_any w.heap.size n n p (Pl.stp f q last) w4 HR4.out (by omega) hp (stp_lt f q n last (p / 64) (by omega) (by omega) (fun j _ => HF.out j))
  have hS := fun p (hp : p < 64 * n) => Pl.stp_bit f q n top p hp ht (fun j _ => HF.out j) HZ.out
  rw [← HL.out] at hS
  have BF := hid bF
  have BQ := hid bQ
  have BS := hid bS
  have HS := hid hS
  clear bF bQ bS hS
  go_loop [12, 13] (fun al ix => ∃ k : Nat, ix = .int .i64 k ∧ k ≤ 64 * n ∧ al = .bool (Pl.anyW f q k)) (fun _ ix => 64 * n - (intOf ix).toNat)
  case atStart => exact ⟨0, rfl, Nat.zero_le _, rfl⟩
  case round =>
    obtain ⟨k, rfl, hk, rfl⟩ := hrel
    by_cases hlt : k < 64 * n
    · rcases Nat.eq_zero_or_pos k with rfl | hk0
      · have e0 : Pl.bit (Pl.stp f q last) 0 = false := HS.out 0 hlt
        have hS : Calls Try.prog 18 #[.slice (some ⟨w.heap.size, 0, none⟩) n n, .int .i64 0] w4 fun e w' => e = .returned (.bool false) ∧ w' = w4 := by rw [← e0]; exact BS.out 0 hlt
        clear e0
        go_wp2_with fail
        refine hS.mono ?_
        rintro e w' ⟨rfl, hw⟩
        obtain rfl := hw.symm
        clear hw
        go_wp2_with fail
        go_round
        case rel => exact ⟨1, rfl, by omega, rfl⟩
        case measure => simp [intOf]; omega
      · obtain ⟨j, rfl⟩ : ∃ j, k = j + 1 := ⟨k - 1, by omega⟩
        have hw1 : Pl.want f q (j + 1) = (Pl.bit f j && Pl.bit q j) := by simp [Pl.want]
        have ha1 : Pl.anyW f q (j + 1 + 1) = (Pl.anyW f q (j + 1) || Pl.want f q (j + 1)) := rfl
        have e1 := HS.out (j + 1) hlt
        have hB := BF.out j (by omega)
        have hI := BQ.out j (by omega)
        have hS : Calls Try.prog 18 #[.slice (some ⟨w.heap.size, 0, none⟩) n n, .int .i64 ((j : Int) + 1)] w4 fun e w' => e = .returned (.bool (Pl.bit (Pl.stp f q last) (j + 1))) ∧ w' = w4 := BS.out (j + 1) hlt
        rw [e1, hw1] at hS
        rw [hw1] at ha1
        clear e1 hw1
        generalize Pl.bit f j = x at *
        generalize Pl.bit q j = y at *
        cases x
        · have HA := hid ha1
          clear ha1
          go_wp2_with fail
          refine hB.mono ?_
          rintro e w' ⟨rfl, hw⟩
          obtain rfl := hw.symm
          clear hw
          go_wp2_with fail
          refine hS.mono ?_
          rintro e w' ⟨rfl, hw⟩
          obtain rfl := hw.symm
          clear hw
          go_wp2_with fail
          go_round
          case rel => exact ⟨j + 1 + 1, by go_num, by omega, by rw [HA.out]; simp⟩
          case measure => simp [intOf]; omega
        · cases y
          · have HA := hid ha1
            clear ha1
            go_wp2_with fail
            refine hB.mono ?_
            rintro e w' ⟨rfl, hw⟩
            obtain rfl := hw.symm
            clear hw
            go_wp2_with fail
            refine hI.mono ?_
            rintro e w' ⟨rfl, hw⟩
            obtain rfl := hw.symm
            clear hw
            go_wp2_with fail
            refine hS.mono ?_
            rintro e w' ⟨rfl, hw⟩
            obtain rfl := hw.symm
            clear hw
            go_wp2_with fail
            go_round
            case rel => exact ⟨j + 1 + 1, by go_num, by omega, by rw [HA.out]; simp⟩
            case measure => simp [intOf]; omega
          · have HA := hid ha1
            clear ha1
            go_wp2_with fail
            refine hB.mono ?_
            rintro e w' ⟨rfl, hw⟩
            obtain rfl := hw.symm
            clear hw
            go_wp2_with fail
            refine hI.mono ?_
            rintro e w' ⟨rfl, hw⟩
            obtain rfl := hw.symm
            clear hw
            go_wp2_with fail
            refine hS.mono ?_
            rintro e w' ⟨rfl, hw⟩
            obtain rfl := hw.symm
            clear hw
            go_wp2_with fail
            go_round
            case rel => exact ⟨j + 1 + 1, by go_num, by omega, by rw [HA.out]; simp⟩
            case measure => simp [intOf]; omega
    · obtain rfl : k = 64 * n := by omega
      have el : lv = Pl.anyW f q (64 * n) := by
        rw [HLV.out, HL.out]; exact Pl.liv_any f q n top ht (fun j _ => HF.out j) HZ.out
      have hbe : (lv == Pl.anyW f q (64 * n)) = true := by rw [el]; simp
      have HB4' := HB4
      clear el BF BQ BS HS HB4
      by_cases hA : top + 1 < n
      · have e1 : last = top + 1 := by rw [HL.out]; omega
        have hc := HR4.out.cell (top + 1) hA
        by_cases hx : Pl.stp f q last (top + 1) = 0
        · have hb : ((Pl.stp f q last (top + 1) : Int) != 0) = false := by rw [bne_eq_false_iff_eq]; omega
          have et : ((tt : Int) == (top : Int)) = true := by rw [HTT.out, beq_iff_eq, topOf_no (by rw [← e1] at hx; exact hx)]
          clear hx e1 HTT
          go_wp2_with fail
          go_ret
          exact ⟨rfl, HB4'.out⟩
        · have hb : ((Pl.stp f q last (top + 1) : Int) != 0) = true := by rw [bne_iff_ne]; omega
          have et : ((tt : Int) == (top : Int) + 1) = true := by rw [HTT.out, beq_iff_eq, topOf_yes (by rw [← e1] at hx; exact hx), e1]; rfl
          clear hx e1 HTT
          go_wp2_with fail
          go_ret
          exact ⟨rfl, HB4'.out⟩
      · have e1 : last = top := by rw [HL.out]; omega
        have et : ((tt : Int) == (top : Int)) = true := by
          rw [HTT.out, beq_iff_eq, e1]; unfold topOf; split <;> rfl
        clear e1 HTT
        go_wp2_with fail
        go_ret
        exact ⟨rfl, HB4'.out⟩

theorem walk (a0 : Int) (a1 : Option Addr) (len1 cap1 : Nat) (z1 : List Int) (a2 : Int) (a3 : Option Addr) (len3 cap3 : Nat) (z3 : List Int) (w : World) (w0 : (Lit.int .i64 a0).wf = true) (w1 : IsRow .u64 w a1 len1 cap1 z1) (w2 : (Lit.int .i64 a2).wf = true) (w3 : IsRow .u64 w a3 len3 cap3 z3) :
    Calls Try.prog 6 #[.int .i64 a0, .slice a1 len1 cap1, .int .i64 a2, .slice a3 len3 cap3] w fun e w' => e = .returned (.bool true) ∧ Below w.heap.size w w' := by
  obtain ⟨r1, r2, r3⟩ := row_open w1
  obtain ⟨s1, s2, s3⟩ := row_open w3
  by_cases hD : Dom a0 (wd z1) len1 a2 len3 ∧ len1 + len3 ≤ 131072
  · obtain ⟨⟨d1, d2, d3, d4, d5, d6⟩, hs⟩ := hD
    obtain ⟨b1, o1, rfl, c1⟩ := r2 (by omega)
    obtain ⟨b3, o3, rfl, c3⟩ := s2 (by omega)
    obtain ⟨top, rfl⟩ := Int.eq_ofNat_of_zero_le d3
    subst d2
    exact core len1 len3 top b1 o1 cap1 b3 o3 cap3 (wd z1) (wd z3) w (by omega) (by omega) hs (by omega) r3 s3 (fun j h1 h2 => d6 j (by omega) (by omega)) c1 c3
  · have HD := hid hD
    have HR := hid r2
    clear hD r2 s2 w0 w1 w2 w3 r3 s3
    go_enter Try.func6, Try.ntmps6
    go_wp2_with fail
    refine (bytes_any _ _ _ _ _ _ _ _ _ r1 s1).mono ?_
    rintro e w' ⟨b, rfl, hw⟩
    obtain rfl := hw.symm
    clear hw
    cases b
    · go_wp2_with fail
      go_ret
      exact ⟨rfl, Below.refl _ _⟩
    by_cases hA : 131072 < len1
    · go_wp2_with fail
      go_ret
      exact ⟨rfl, Below.refl _ _⟩
    by_cases hB : 131072 < len3
    · go_wp2_with fail
      go_ret
      exact ⟨rfl, Below.refl _ _⟩
    by_cases hC : 131072 < len1 + len3
    · go_wp2_with fail
      go_ret
      exact ⟨rfl, Below.refl _ _⟩
    go_wp2_with fail
    refine (dom_any a0 a2 a1 a3 len1 cap1 len3 cap3 (wd z1) w (by omega) (by omega) HR.out).mono ?_
    rintro e w' ⟨b, rfl, hw, hdom⟩
    obtain rfl := hw.symm
    clear hw
    cases b
    · clear hdom
      go_wp2_with fail
      go_ret
      exact ⟨rfl, Below.refl _ _⟩
    · exact absurd ⟨hdom rfl, by omega⟩ HD.out

/-! ### THE ROW's STEP: WRITTEN OUT: LEAVE IT -/
set_option maxRecDepth 100000 in
theorem lifted (os : Os) (started : os.Started) (H : Type) (enc : TypeId × Value → H) :
    ReturnsInHanded {} Try.checked os 6 .any (Rows.fnStepShiftsTheMatchedPositionsSpec.pre6 enc Try.prog Try.f6 Rows.fnStepShiftsTheMatchedPositionsRow.domain false) (Rows.fnStepShiftsTheMatchedPositionsSpec.post enc Try.prog Try.f6 false true false false) := by
  refine returnsInHanded_of_change (C := Try.checked) own started (by kernel_rfl) Try.func6
    (ChangeSpec.witness6 (enc := enc) (C := Try.checked) false ⟨#[], #[.int .i64 0, .slice none 0 0, .int .i64 0, .slice none 0 0], []⟩ 8 (by kernel_rfl) (by kernel_rfl) (by kernel_rfl) (by kernel_rfl)) ?_
  intro W base args ds gs before hval0 hW hcnd _
  have hval : ∀ (j : Nat) t v, Try.f6.params[j]? = some t → args[j]? = some v → Value.okWide Try.prog W .any base t v := hval0
  have hW' := hW
  obtain ⟨p, q, hA0, hV, rfl, hfz, hnd⟩ := hW
  have hA : DataW.TrodAll enc Try.prog W 0 (fun _ => true) true Try.f6.params.toList args.toList ds p := hA0
  rw [Try.params6] at hA hval
  obtain ⟨v0, vs0, d0, ds0, p0, q0, hargs, rfl, rfl, h0, r0⟩ := trodAll_cons hA
  obtain ⟨v1, vs1, d1, ds1, p1, q1, rfl, rfl, rfl, h1, r1⟩ := trodAll_cons r0
  obtain ⟨v2, vs2, d2, ds2, p2, q2, rfl, rfl, rfl, h2, r2⟩ := trodAll_cons r1
  obtain ⟨v3, vs3, d3, ds3, p3, q3, rfl, rfl, rfl, h3, r3⟩ := trodAll_cons r2
  obtain ⟨rfl, rfl, rfl⟩ := trodAll_nil r3
  obtain rfl : args = #[v0, v1, v2, v3] := by cases args; simp_all
  obtain ⟨rfl, rfl⟩ := trodVars_none hV
  obtain ⟨a0, rfl, rfl, rfl, w0⟩ := open_int Try.underlying3 (hval 0 3 v0 rfl rfl) h0
  obtain ⟨a1, len1, cap1, rfl⟩ := okWide_slice Try.underlying32 (hval 1 32 v1 rfl rfl)
  have k1 := h1
  have lt1 : ∀ x ∈ p1, x.block < W.heap.size := by obtain ⟨m, hm⟩ := k1; exact DataW.trod_lt m _ _ _ hm
  obtain ⟨z1, w1⟩ : ∃ zs, IsRow .u64 W a1 len1 cap1 zs := by
    obtain ⟨fuel, hf⟩ := h1
    rcases open_ints Try.underlying32 Try.underlying23 (by kernel_rfl) hf with ⟨hcs, _⟩ | ⟨x, l, c, zs, hcs, _, hl, hm, hz, _, hcell, hwz⟩
    · simp [Value.cells] at hcs
      obtain ⟨rfl, rfl, rfl⟩ := hcs
      exact ⟨[], .inl ⟨rfl, rfl, rfl, rfl⟩⟩
    · simp [Value.cells] at hcs
      obtain ⟨rfl, rfl, rfl⟩ := hcs
      exact ⟨zs, .inr ⟨_, rfl, hl, hm, by simpa using hz, hcell, hwz⟩⟩
  obtain ⟨a2, rfl, rfl, rfl, w2⟩ := open_int Try.underlying3 (hval 2 3 v2 rfl rfl) h2
  obtain ⟨a3, len3, cap3, rfl⟩ := okWide_slice Try.underlying32 (hval 3 32 v3 rfl rfl)
  have k3 := h3
  have lt3 : ∀ x ∈ p3, x.block < W.heap.size := by obtain ⟨m, hm⟩ := k3; exact DataW.trod_lt m _ _ _ hm
  obtain ⟨z3, w3⟩ : ∃ zs, IsRow .u64 W a3 len3 cap3 zs := by
    obtain ⟨fuel, hf⟩ := h3
    rcases open_ints Try.underlying32 Try.underlying23 (by kernel_rfl) hf with ⟨hcs, _⟩ | ⟨x, l, c, zs, hcs, _, hl, hm, hz, _, hcell, hwz⟩
    · simp [Value.cells] at hcs
      obtain ⟨rfl, rfl, rfl⟩ := hcs
      exact ⟨[], .inl ⟨rfl, rfl, rfl, rfl⟩⟩
    · simp [Value.cells] at hcs
      obtain ⟨rfl, rfl, rfl⟩ := hcs
      exact ⟨zs, .inr ⟨_, rfl, hl, hm, by simpa using hz, hcell, hwz⟩⟩
  clear hA0 hval0
  refine (walk a0 a1 len1 cap1 z1 a2 a3 len3 cap3 z3 W w0 w1 w2 w3).mono fun e W' ⟨he, bel⟩ => ?_
  subst he
  exact ⟨_, rfl, _, _, _, [], _, [], hW', trodAll_mk1 (shut_bool Try.underlying4 _), (trodAll_cons_mk (shut_int Try.underlying3 w0) (trodAll_cons_mk (Below.trod laidOut (by kernel_rfl) (of_decide_eq_true (by kernel_rfl)) k1 bel lt1) (trodAll_cons_mk (shut_int Try.underlying3 w2) (trodAll_cons_mk (Below.trod laidOut (by kernel_rfl) (of_decide_eq_true (by kernel_rfl)) k3 bel lt3) trodAll_mk0)))), rfl, bel.frame _, fun h => by cases h⟩

theorem over : Rows.fnStepShiftsTheMatchedPositionsRow.holds Try.pinned (OpenSpec.ofChange Rows.fnStepShiftsTheMatchedPositionsSpec) :=
  OpenClaim.holds_of_wide 6 Try.f6 rfl rfl rfl rfl rfl rfl rfl ⟨rfl, rfl, rfl, rfl, rfl⟩ rfl rfl rfl rfl rfl (by kernel_rfl) Try.func6 (by kernel_rfl)
    (of_decide_eq_true (by kernel_rfl)) (by unfold Func.isWrapper; first | (rw [if_pos (by decide +kernel)]; kernel_rfl) | (rw [if_neg (by decide +kernel)]; exact ⟨rfl, rfl⟩))
    (fun os started H enc _ => lifted os started H enc)

/-- ████ THE STATEMENT ████ -/
theorem proved : Rows.FnStepShiftsTheMatchedPositionsSaid := over
#print axioms proved
end Go.Proofs.Qxb6603747a.fnStepShiftsTheMatchedPositions
