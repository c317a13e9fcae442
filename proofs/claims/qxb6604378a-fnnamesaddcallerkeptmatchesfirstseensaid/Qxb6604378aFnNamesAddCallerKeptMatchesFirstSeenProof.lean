/-
  'Rows.FnNamesAddCallerKeptMatchesFirstSeenSaid': a set whose caller keeps the names it has added.
-/
import Derived.Test.Qxb6604378aRows
import Derived.Test.Qxb6604378aUno
import Derived.Test.Qxb6604378aRow
import Derived.WalkKit
import Derived.Deep.RegionHeld3
namespace Go.Proofs.Qxb6604378a.fnNamesAddCallerKeptMatchesFirstSeen
open Go.ChangeShapes Go.WideShapes Go.ChangeAt Go.RowKit
open Go.ChangeMaps (open_string shut_string)
set_option linter.unusedVariables false
set_option linter.unusedSimpArgs false

/-- The row of what was added, and what is as it was. -/
def Row (w1 : World) (g c : Nat) (xs : List ByteArray) (wr : World) : Prop :=
  wr.ownsRow 0 9 1 (.slice (some ⟨g, 0, none⟩) xs.length c) xs.length (xs.map Value.string) ∧ Below w1.heap.size w1 wr

set_option maxRecDepth 100000 in
set_option maxHeartbeats 2000000 in
theorem walk (z : Int) (a : Option Addr) (len cap : Nat) (ns : Nat → ByteArray) (w : World) (hl : len ≤ maxLen) (hA : Arg w a len ns) (hn : ∀ i, (ns i).size ≤ maxLen) :
    Calls Try.prog 4 #[.int .i64 z, .slice a len cap] w fun e w' => e = .returned (.bool true) ∧ Below w.heap.size w w' := by
  have HA := hide hA
  have HN := hide hn
  have HL := hide hl
  clear hA hn hl
  go_enter Try.func4, Try.ntmps4
  go_wp2_with fail
  refine (zz11 z a len cap ns w HL.out HA.out HN.out).mono ?_
  rintro e w' ⟨b, rfl, hw, hb⟩
  obtain rfl := hw
  cases b
  · clear hb
    go_wp2_with fail
    go_ret
    exact ⟨rfl, Below.refl _ _⟩
  obtain ⟨hb1, hb2⟩ := hb rfl
  have HB2 := hide hb2
  clear hb2 hb
  by_cases h4 : 4096 < len
  · go_wp2_with fail
    go_ret
    exact ⟨rfl, Below.refl _ _⟩
  go_wp2_with fail
  refine (bytes_any a len cap ns w (by omega) HA.out HB2.out).mono ?_
  rintro e w' ⟨n, rfl, hw⟩
  obtain rfl := hw
  by_cases h5 : 1048576 < n
  · go_wp2_with fail
    go_ret
    exact ⟨rfl, Below.refl _ _⟩
  by_cases h6 : z < 0
  · go_wp2_with fail
    go_ret
    exact ⟨rfl, Below.refl _ _⟩
  obtain ⟨sz, rfl⟩ := Int.eq_ofNat_of_zero_le (a := z) (by omega)
  by_cases h7 : 65536 < sz
  · go_wp2_with fail
    go_ret
    exact ⟨rfl, Below.refl _ _⟩
  go_wp2_with fail
  refine (first_any a len cap ns w (by omega) HA.out).mono ?_
  rintro e w1 ⟨rfl, hr1, hbl1⟩
  have HR1 := hide hr1
  have HBL1 := hide hbl1
  have h63 : len ≤ 4096 := by omega
  have hsz : sz ≤ 65536 := by omega
  have hz1 := hr1.lt
  clear hr1 hbl1 h4 h5 h6 h7 HB2
  go_wp2_with fail
  go_loop [6, 7] (fun s t => ∃ k : Nat, t = .int .i64 k ∧ k ≤ len ∧ s = .int .i64 ((fs ns k).length : Nat)) (fun _ t => len - (intOf t).toNat)
  case atStart => exact ⟨0, rfl, Nat.zero_le _, rfl⟩
  case round =>
    obtain ⟨k, rfl, hk, rfl⟩ := hrel
    by_cases hlt : k < len
    · have ck := HR1.out.cell k hlt
      have hfl := fs_len ns k
      have HFS := hide (show fs ns (k + 1) = if nw ns k then fs ns k ++ [ns k] else fs ns k from rfl)
      obtain ⟨q, hq⟩ : ∃ q, q = nw ns k := ⟨_, rfl⟩
      have ck2 : w1.cell? ⟨w.heap.size, k, none⟩ = some (.bool q) := by rw [hq]; exact ck
      rw [← hq] at HFS
      clear hq ck
      have i0 : (k : Int) < (len : Int) := by omega
      cases q
      · go_wp2_with fail
        go_round
        case rel => exact ⟨k + 1, by go_num, by omega, by rw [HFS.out]; rfl⟩
        case measure => simp [intOf]; omega
      · go_wp2_with fail
        go_round
        case rel => exact ⟨k + 1, by go_num, by omega, by rw [HFS.out]; simp⟩
        case measure => simp [intOf]; omega
    · obtain rfl : k = len := by omega
      have hfl := fs_len ns k
      obtain ⟨ct, hct⟩ : ∃ ct, ct = (fs ns k).length := ⟨_, rfl⟩
      rw [← hct] at hfl ⊢
      have HCT := hide hct
      clear hct
      obtain ⟨i0, hi, hz0, hz1', hz2⟩ := info_parts info9
      go_wp2_with (first | (at_make; refine wpList_make_own _ rfl _ _ 22 rfl 0 9 i0 (.string ⟨#[]⟩) 1 Try.underlying22 hi hz0 hz1' _ _ _ ct rfl rfl (by omega) (by rw [hz2]; omega) (by unfold maxLen; omega) (Nat.zero_le _) ?_; intro w2 hown2 hgrow2))
      have hro : Row w1 w1.heap.size ct (fs ns 0) w2 := ⟨hown2, (Below.refl _ _).grown hgrow2 (Nat.le_refl _) (fun k h => by cases h)⟩
      have HRO := hide hro
      clear hown2 hgrow2 hro
      go_loopw [8, 9] (fun v t wr => ∃ j : Nat, t = .int .i64 j ∧ j ≤ k ∧ v = .slice (some ⟨w1.heap.size, 0, none⟩) (fs ns j).length ct ∧ Hid (Row w1 w1.heap.size ct (fs ns j) wr)) (fun _ t _ => k - (intOf t).toNat)
      case atStart => exact ⟨0, rfl, Nat.zero_le _, rfl, HRO⟩
      case round =>
        obtain ⟨j, rfl, hj, rfl, HRW⟩ := hrel
        clear HRO
        by_cases hlt2 : j < k
        · obtain ⟨b, off, rfl, hb, hcs⟩ := HA.out (by omega)
          have cn : wr.cell? ⟨b, off + j, none⟩ = some (.string (ns j)) := (HRW.out.2.cell (p := ⟨b, off + j, none⟩) (by show b < _; omega)).trans ((HBL1.out.cell (p := ⟨b, off + j, none⟩) hb).trans (hcs j hlt2))
          have cw : wr.cell? ⟨w.heap.size, j, none⟩ = some (.bool (nw ns j)) := (HRW.out.2.cell (p := ⟨w.heap.size, j, none⟩) hz1).trans (HR1.out.cell j hlt2)
          clear hcs
          have hfm := fs_mono ns (show j + 1 ≤ k by omega)
          rw [← HCT.out] at hfm
          have HFS := hide (show fs ns (j + 1) = if nw ns j then fs ns j ++ [ns j] else fs ns j from rfl)
          obtain ⟨q, hq⟩ : ∃ q, q = nw ns j := ⟨_, rfl⟩
          rw [← hq] at HFS cw
          clear hq
          have ii0 : (j : Int) < (k : Int) := by omega
          obtain ⟨m, hm⟩ : ∃ m, m = (fs ns j).length := ⟨_, rfl⟩
          cases q
          · clear hm hfm
            go_wp2_with fail
            go_roundw
            case rel => exact ⟨j + 1, by go_num, by omega, by rw [HFS.out]; rfl, by rw [HFS.out]; exact HRW⟩
            case measure => simp [intOf]; omega
          · have hroom : (fs ns j).length + 1 ≤ ct := by rw [HFS.out] at hfm; simpa using hfm
            have hoj := HRW.out.1
            clear hm hfm
            go_wp2_with (first | (at_builtin; refine wpList_append_fits _ rfl (.tmp 59) (.tmp 64) 22 rfl 0 9 i0 1 Try.underlying22 hi hz1' w1.heap.size (fs ns j).length ct _ rfl (hoj.alloc _) ⟨wr.heap.size, 0, none⟩ 1 1 [.string (ns j)] rfl rfl (cell_one_new _ _ _) (by simp [Value.oneCell']) hroom ?_; intro w4 ho4 hg4))
            go_roundw
            case rel =>
              refine ⟨j + 1, by go_num, by omega, by rw [HFS.out]; simp, ?_, ?_⟩
              · rw [HFS.out]
                simpa using ho4
              · exact (HRW.out.2.alloc HRW.out.2.size _).grown hg4 (by have := HRW.out.2.size; rw [World.size_alloc]; omega) (fun x h => by cases h; exact Nat.le_refl _)
            case measure => simp [intOf]; omega
        · obtain rfl : j = k := by omega
          go_wp2_with fail
          refine (zzkept_any sz (some ⟨w1.heap.size, 0, none⟩) (fs ns j).length ct wr).mono ?_
          rintro e w5 ⟨rfl, hbox, hz5, hbl5⟩
          obtain ⟨hg1, hcl⟩ := owns_cells HRW.out.1
          have HU0 := uno_made (sz := sz) (K := fs ns j) hcl hg1 hbox hz5 hbl5 (by have := fs_len ns j; omega) (fs_sizes ns HN.out j)
          dsimp only at HU0
          have HB5 := hide ((HBL1.out.trans (HRW.out.2.mono (by omega))).trans (hbl5.mono (by omega)))
          have hcw5 : ∀ i, i < j → w5.cell? ⟨w.heap.size, i, none⟩ = some (.bool (nw ns i)) := fun i hi => (hbl5.cell (p := ⟨w.heap.size, i, none⟩) (by show w.heap.size < _; omega)).trans ((HRW.out.2.cell (p := ⟨w.heap.size, i, none⟩) hz1).trans (HR1.out.cell i hi))
          have HCW5 := hide hcw5
          clear hbox hbl5 hcl hcw5
          generalize hC : fresh sz (.func (Fn.func 16) #[] #[.pointer (some ⟨wr.heap.size, 0, none⟩)]) = C
          rw [hC] at HU0
          have HU := hide HU0
          clear HU0
          have hs : C.size = 15 := by rw [← hC]; rfl
          have hone : C.all (·.oneCell') = true := by rw [← hC]; exact fresh_one sz _
          have hth := there31 (heap_alloc_new w5 (.cells (fresh 0 .nilFunc) 31)) rfl
          rw [← hs] at hth
          have hi5 : (Try.prog.info? 31).map (·.size) = some C.size := by rw [hs]; exact info31
          go_wp2_with (refine wpList_store_mid rfl 31 _ _ rfl w5.heap.size 0 C rfl rfl hth hi5 hone ?_)
          obtain ⟨kv, hkv⟩ : ∃ kv, kv = Value.func (Fn.func 16) #[] #[.pointer (some ⟨wr.heap.size, 0, none⟩)] := ⟨_, rfl⟩
          have HU1 := HU.out.1
          have HT1 := HU.out.2.1
          have HBB := HU.out.2.2
          generalize hw6 : (w5.alloc (.cells (fresh 0 .nilFunc) 31)).setCells w5.heap.size 0 C.toList = w6 at HU1 HT1 HBB
          rw [← hkv] at HU1 HT1
          have HK := hide (knows_twice ns j)
          have HU6 := hide HU1
          have HT6 := hide HT1
          have HB6 := hide (HB5.out.trans (HBB.mono (by omega)))
          have hcw6 : ∀ i, i < j → w6.cell? ⟨w.heap.size, i, none⟩ = some (.bool (nw ns i)) := fun i hi => (HBB.cell (p := ⟨w.heap.size, i, none⟩) (by show w.heap.size < _; omega)).trans (HCW5.out i hi)
          have HCW6 := hide hcw6
          have hz6 : w.heap.size < w5.heap.size := by omega
          clear HU1 HT1 HBB HU hcw6 HCW5 hth hi5 hone hs HRW hkv hC
          go_loopw [11] (fun t wx => ∃ i : Nat, t = .int .i64 i ∧ i ≤ j ∧ Hid (Uno w6 w5.heap.size sz kv (some (fs ns j)) (runS (some (fs ns j)) (twice ns j) i) wx)) (fun t _ => j - (intOf t).toNat)
          case atStart =>
            have HU7 : Hid (Uno w6 w5.heap.size sz kv (some (fs ns j)) (runS (some (fs ns j)) (twice ns j) 0) ((w5.alloc (.cells (fresh 0 .nilFunc) 31)).setCells w5.heap.size 0 C.toList)) := by rw [hw6]; exact HU6
            exact ⟨0, rfl, Nat.zero_le _, HU7⟩
          case round =>
            obtain ⟨i, rfl, hi', HV⟩ := hrel
            clear HU6 hw6
            by_cases hlt3 : i < j
            · obtain ⟨b, off, rfl, hb, hcs⟩ := HA.out (by omega)
              have hn6 : w6.cell? ⟨b, off + i, none⟩ = some (.string (ns i)) := (HB6.out.cell (p := ⟨b, off + i, none⟩) hb).trans (hcs i hlt3)
              have hw6 := HCW6.out i hlt3
              have cn := HV.out.cell (b := b) (by omega) hn6
              have cw := HV.out.cell (b := w.heap.size) hz6 hw6
              have e1 : twice ns j i = ns i := by unfold twice; rw [if_pos hlt3]
              have hsay := run_says HK.out i (by omega)
              rw [e1, twice_one ns j i hlt3] at hsay
              have hst : addS (some (fs ns j)) (runS (some (fs ns j)) (twice ns j) i) (ns i) = runS (some (fs ns j)) (twice ns j) (i + 1) := by rw [runS, e1]
              have hC1 := fun wx (hq : Quiet wr wx) => ((HV.out.quiet hq).step HT6.out (run_enough HK.out i (by omega)) (run_fits HK.out i (by omega) (by omega)) hsz (ns i) (HN.out i)).mono
                (R' := fun e w' => e = .returned (.bool (nw ns i)) ∧ Hid (Uno w6 w5.heap.size sz kv (some (fs ns j)) (runS (some (fs ns j)) (twice ns j) (i + 1)) w') ∧ w'.cell? ⟨b, off + i, none⟩ = some (.string (ns i)) ∧ w'.cell? ⟨w.heap.size, i, none⟩ = some (.bool (nw ns i)))
                (fun e w' h => ⟨by rw [h.1, hsay], by rw [← hst]; exact h.2, h.2.cell (b := b) (by omega) hn6, h.2.cell (b := w.heap.size) hz6 hw6⟩)
              have HC1 := hide hC1
              clear hC1 e1 hsay hst hn6 hw6 hcs
              obtain ⟨q, hq⟩ : ∃ q, q = nw ns i := ⟨_, rfl⟩
              rw [← hq] at cw HC1
              clear hq
              have hqq : (q != q) = false := by cases q <;> rfl
              have ii0 : (i : Int) < (j : Int) := by omega
              go_wp2_with fail
              go_region_held3 (fun w' => w'.cell? ⟨b, off + i, none⟩ = some (.string (ns i)) ∧ w'.cell? ⟨w.heap.size, i, none⟩ = some (.bool q)) (simp [go_sem, *])
                ((go_at_call 10; refine (HC1.out _ (quiet_drew _)).mono ?_; rintro e w' ⟨rfl, HD1, hc1, hc2⟩))
              all_goals go_wp2_with fail
              go_roundw
              case rel => exact ⟨i + 1, by go_num, by omega, HD1⟩
              case measure => simp [intOf]; omega
            · obtain rfl : i = j := by omega
              go_wp2_with fail
              go_loopw [12] (fun t wx => ∃ l : Nat, t = .int .i64 l ∧ l ≤ i ∧ Hid (Uno w6 w5.heap.size sz kv (some (fs ns i)) (runS (some (fs ns i)) (twice ns i) (i + l)) wx)) (fun t _ => i - (intOf t).toNat)
              case atStart => exact ⟨0, rfl, Nat.zero_le _, HV⟩
              case round =>
                obtain ⟨l, rfl, hl', HX⟩ := hrel
                clear HV
                by_cases hlt4 : l < i
                · obtain ⟨b, off, rfl, hb, hcs⟩ := HA.out (by omega)
                  have hn6 : w6.cell? ⟨b, off + l, none⟩ = some (.string (ns l)) := (HB6.out.cell (p := ⟨b, off + l, none⟩) hb).trans (hcs l hlt4)
                  have cn := HX.out.cell (b := b) (by omega) hn6
                  have e1 : twice ns i (i + l) = ns l := by unfold twice; rw [if_neg (by omega), Nat.add_sub_cancel_left]
                  have hsay := run_says HK.out (i + l) (by omega)
                  rw [e1, twice_two ns i l hlt4] at hsay
                  have hst : addS (some (fs ns i)) (runS (some (fs ns i)) (twice ns i) (i + l)) (ns l) = runS (some (fs ns i)) (twice ns i) (i + (l + 1)) := by
                    show _ = runS (some (fs ns i)) (twice ns i) (i + l + 1)
                    rw [runS, e1]
                  have hC1 := (HX.out.step HT6.out (run_enough HK.out (i + l) (by omega)) (run_fits HK.out (i + l) (by omega) (by omega)) hsz (ns l) (HN.out l)).mono
                    (R' := fun e w' => e = .returned (.bool false) ∧ Hid (Uno w6 w5.heap.size sz kv (some (fs ns i)) (runS (some (fs ns i)) (twice ns i) (i + (l + 1))) w'))
                    (fun e w' h => ⟨by rw [h.1, hsay], by rw [← hst]; exact h.2⟩)
                  have HC1 := hide hC1
                  clear hC1 e1 hsay hst hn6 hcs
                  have ii0 : (l : Int) < (i : Int) := by omega
                  go_wp2_with fail
                  refine HC1.out.mono ?_
                  rintro e w' ⟨rfl, HD1⟩
                  go_wp2_with fail
                  go_roundw
                  case rel => exact ⟨l + 1, by go_num, by omega, HD1⟩
                  case measure => simp [intOf]; omega
                · go_wp2_with fail
                  go_ret
                  exact ⟨rfl, HB6.out.trans (HX.out.below.mono (by omega))⟩

/-! ### The row's frame -/
set_option maxRecDepth 100000 in
theorem lifted (os : Os) (started : os.Started) (H : Type) (enc : TypeId × Value → H) :
    ReturnsInHanded {} Try.checked os 4 .any (Rows.fnNamesAddCallerKeptMatchesFirstSeenSpec.pre6 enc Try.prog Try.f4 Rows.fnNamesAddCallerKeptMatchesFirstSeenRow.domain false) (Rows.fnNamesAddCallerKeptMatchesFirstSeenSpec.post enc Try.prog Try.f4 false true false false) := by
  refine returnsInHanded_of_change (C := Try.checked) own started (by kernel_rfl) Try.func4
    (ChangeSpec.witness6 (enc := enc) (C := Try.checked) false ⟨#[], #[.int .i64 0, .slice none 0 0], []⟩ 8 (by kernel_rfl) (by kernel_rfl) (by kernel_rfl) (by kernel_rfl)) ?_
  intro W base args ds gs before hval0 hW hcnd _
  have hval : ∀ (j : Nat) t v, Try.f4.params[j]? = some t → args[j]? = some v → Value.okWide Try.prog W .any base t v := hval0
  have hW' := hW
  obtain ⟨p, q, hA0, hV, rfl, hfz, hnd⟩ := hW
  have hA : DataW.TrodAll enc Try.prog W 0 (fun _ => true) true Try.f4.params.toList args.toList ds p := hA0
  rw [Try.params4] at hA hval
  obtain ⟨v0, vs0, d0, ds0, p0, q0, hargs, rfl, rfl, h0, r0⟩ := trodAll_cons hA
  obtain ⟨v1, vs1, d1, ds1, p1, q1, rfl, rfl, rfl, h1, r1⟩ := trodAll_cons r0
  obtain ⟨rfl, rfl, rfl⟩ := trodAll_nil r1
  obtain rfl : args = #[v0, v1] := by cases args; simp_all
  obtain ⟨rfl, rfl⟩ := trodVars_none hV
  obtain ⟨a0, rfl, rfl, rfl, w0⟩ := open_int Try.underlying3 (hval 0 3 v0 rfl rfl) h0
  obtain ⟨a1, len1, cap1, rfl⟩ := okWide_slice Try.underlying22 (hval 1 22 v1 rfl rfl)
  have k1 := h1
  have lt1 : ∀ x ∈ p1, x.block < W.heap.size := by obtain ⟨m, hm⟩ := k1; exact DataW.trod_lt m _ _ _ hm
  obtain ⟨hlen, ns, hns, hsize⟩ : Told W a1 len1 := by
    obtain ⟨fuel, hf⟩ := h1
    rcases open_strings Try.underlying22 Try.underlying9 (by kernel_rfl) hf with ⟨hcs, _⟩ | ⟨x, l, c, ss, hcs, _, hl, hm, hz, _, hcell, hws⟩
    · simp [Value.cells] at hcs
      obtain ⟨rfl, rfl, rfl⟩ := hcs
      exact ⟨Nat.zero_le _, fun _ => ByteArray.empty, fun h => absurd h (Nat.lt_irrefl _), fun _ => Nat.zero_le _⟩
    · simp [Value.cells] at hcs
      obtain ⟨rfl, rfl, rfl⟩ := hcs
      exact ⟨Nat.le_trans hl hm, fun i => ss.getD i ByteArray.empty, arg_of hl (by simpa using hz) hcell, sizes_of hws⟩
  clear hA0 hval0
  refine (walk a0 a1 len1 cap1 ns W hlen hns hsize).mono fun e W' ⟨he, bel⟩ => ?_
  subst he
  exact ⟨_, rfl, _, _, _, [], _, [], hW', trodAll_mk1 (shut_bool Try.underlying4 _), (trodAll_cons_mk (shut_int Try.underlying3 w0) (trodAll_cons_mk (Below.trod laidOut (by kernel_rfl) (of_decide_eq_true (by kernel_rfl)) k1 bel lt1) trodAll_mk0)), rfl, bel.frame _, fun h => by cases h⟩

theorem over : Rows.fnNamesAddCallerKeptMatchesFirstSeenRow.holds Try.pinned (OpenSpec.ofChange Rows.fnNamesAddCallerKeptMatchesFirstSeenSpec) :=
  OpenClaim.holds_of_wide 4 Try.f4 rfl rfl rfl rfl rfl rfl rfl ⟨rfl, rfl, rfl, rfl, rfl⟩ rfl rfl rfl rfl rfl (by kernel_rfl) Try.func4 (by kernel_rfl)
    (of_decide_eq_true (by kernel_rfl)) (by unfold Func.isWrapper; first | (rw [if_pos (by decide +kernel)]; kernel_rfl) | (rw [if_neg (by decide +kernel)]; exact ⟨rfl, rfl⟩))
    (fun os started H enc _ => lifted os started H enc)

theorem proved : Rows.FnNamesAddCallerKeptMatchesFirstSeenSaid := over
#print axioms proved
end Go.Proofs.Qxb6604378a.fnNamesAddCallerKeptMatchesFirstSeen
