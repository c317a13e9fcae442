/-
  'Rows.FnKeptNamesTrustsKeptSaid': what the set knows of the ninth name on is what the teller tells.
-/
import Derived.Test.Qxb6604378aRows
import Derived.Test.Qxb6604378aTrust
import Derived.Test.Qxb6604378aRow
import Derived.WalkKit
import Derived.Deep.RegionHeld3
namespace Go.Proofs.Qxb6604378a.fnKeptNamesTrustsKept
open Go.ChangeShapes Go.WideShapes Go.ChangeAt Go.RowKit
open Go.ChangeMaps (open_string shut_string)
set_option linter.unusedVariables false
set_option linter.unusedSimpArgs false

/-- The row of what is told, made up to k. -/
def upT (ns : Nat → ByteArray) (k : Nat) : Nat → Value := fun j => .string (if j < k then tl ns j else E)

set_option maxRecDepth 100000 in
set_option maxHeartbeats 2000000 in
theorem walk (z : Int) (a : Option Addr) (len cap : Nat) (ns : Nat → ByteArray) (w : World) (hl : len ≤ maxLen) (hA : Arg w a len ns) (hn : ∀ i, (ns i).size ≤ maxLen) :
    Calls Try.prog 5 #[.int .i64 z, .slice a len cap] w fun e w' => e = .returned (.bool true) ∧ Below w.heap.size w w' := by
  have HA := hide hA
  have HN := hide hn
  have HL := hide hl
  clear hA hn hl
  go_enter Try.func5, Try.ntmps5
  go_wp2_with fail
  refine (zz13 z a len cap ns w HL.out HA.out HN.out).mono ?_
  rintro e w' ⟨b, rfl, hw, hb⟩
  obtain rfl := hw
  cases b
  · clear hb
    go_wp2_with fail
    go_ret
    exact ⟨rfl, Below.refl _ _⟩
  obtain ⟨hb1, hb2⟩ := hb rfl
  have HB2 := hide hb2
  clear hb2 hb
  by_cases h4 : 4096 < len
  · go_wp2_with fail
    go_ret
    exact ⟨rfl, Below.refl _ _⟩
  go_wp2_with fail
  refine (bytes_any a len cap ns w (by omega) HA.out HB2.out).mono ?_
  rintro e w' ⟨n, rfl, hw⟩
  obtain rfl := hw
  by_cases h5 : 1048576 < n
  · go_wp2_with fail
    go_ret
    exact ⟨rfl, Below.refl _ _⟩
  by_cases h6 : z < 0
  · go_wp2_with fail
    go_ret
    exact ⟨rfl, Below.refl _ _⟩
  obtain ⟨sz, rfl⟩ := Int.eq_ofNat_of_zero_le (a := z) (by omega)
  by_cases h7 : 65536 < sz
  · go_wp2_with fail
    go_ret
    exact ⟨rfl, Below.refl _ _⟩
  go_wp2_with fail
  have h63 : len ≤ 4096 := by omega
  have hsz : sz ≤ 65536 := by omega
  clear h4 h5 h6 h7 HB2
  go_loopw [5] (fun t wr => ∃ m : Nat, t = .int .i64 ((m : Int) + 1) ∧ (m = 0 ∨ m < len) ∧ Quiet w wr ∧ Hid (Up ns (m + 1))) (fun t _ => len + 1 - (intOf t).toNat)
  case atStart => exact ⟨0, rfl, Or.inl rfl, ⟨rfl, rfl, rfl, rfl⟩, fun i hi => by omega⟩
  case round =>
    obtain ⟨m, rfl, hm, hq, HUP⟩ := hrel
    obtain ⟨w0, rfl⟩ : ∃ w0, w0 = wr := ⟨_, rfl⟩
    by_cases hlt : m + 1 < len
    · obtain ⟨b, off, rfl, hb, hcs⟩ := HA.out (by omega)
      have c1 := (hq.cell ⟨b, off + m, none⟩).trans (hcs m (by omega))
      have c2 := (hq.cell ⟨b, off + (m + 1), none⟩).trans (hcs (m + 1) hlt)
      have i0 : (m : Int) + 1 < (len : Int) := by omega
      have i1 : (m : Int) < (len : Int) := by omega
      have iw : IntKind.i64.wrap ((m : Int) + 1) = (m : Int) + 1 := by rw [IntKind.wrap_i64]; omega
      have HQ := hide hq
      clear hcs hq
      obtain ⟨c, hc⟩ : ∃ c, Op.bytesLess (ns m).toList (ns (m + 1)).toList = c := ⟨_, rfl⟩
      cases c
      · go_wp2_with fail
        go_quiet (fail)
        go_wp2_with fail
        go_ret
        exact ⟨rfl, (HQ.out.drew _).below _⟩
      · have HC := hide hc
        go_wp2_with fail
        go_quiet (fail)
        go_wp2_with fail
        go_roundw
        case rel => exact ⟨m + 1, by go_num, Or.inr hlt, HQ.out.drew _, fun i hi => by
          by_cases e : i = m
          · rw [e]; exact HC.out
          · exact HUP.out i (by omega)⟩
        case measure => simp [intOf]; omega
    · have hup : Up ns len := fun i hi => HUP.out i (by omega)
      have HUU := hide hup
      have HQ := hide hq
      have hz0 : w0.heap.size = w.heap.size := by rw [hq.heap]
      have hA0 : Arg w0 a len ns := HA.out.below (hq.below _)
      have HA0 := hide hA0
      have HZ0 := hide hz0
      have i0 : ¬ (m : Int) + 1 < (len : Int) := by omega
      clear hup hq hA0 hm hz0
      obtain ⟨i9, hi, hz0', hz1', hz2⟩ := info_parts info9
      go_wp2_with (at_make; refine wpList_make_full _ rfl _ _ 22 rfl w0.heap.size 9 i9 (.string ⟨#[]⟩) 1 Try.underlying22 hi hz0' hz1' _ _ _ _ len rfl rfl rfl rfl ?b2 ?b3 (Nat.le_refl _) ?_)
      case b2 => first | omega | (rw [hz2]; omega)
      case b3 => unfold maxLen; omega
      intro w1 hown1 hgrow1
      have hr0 := made_row hown1 rfl
      have hbl0 : Below w0.heap.size w0 w1 := (Below.refl _ _).grown hgrow1 (Nat.le_refl _) (fun k h => by cases h)
      clear hown1 hgrow1 hi hz0' hz1' hz2
      go_wp2_with fail
      go_loopw [7] (fun t wr => ∃ k : Nat, t = .int .i64 k ∧ k ≤ len ∧ RowV wr w0.heap.size 9 len (upT ns k) ∧ Below w0.heap.size w0 wr) (fun t _ => len - (intOf t).toNat)
      case atStart => exact ⟨0, rfl, Nat.zero_le _, hr0.congr (fun j _ => by simp [upT, E]), hbl0⟩
      case round =>
        obtain ⟨k, rfl, hk, hr, hbl⟩ := hrel
        clear hr0 hbl0
        by_cases hlt2 : k < len
        · obtain ⟨b, off, rfl, hb, hcs0⟩ := HA0.out (by omega)
          have c1 := (hbl.cell (p := ⟨b, off + k, none⟩) hb).trans (hcs0 k hlt2)
          have c0 := (hbl.cell (p := ⟨b, off + 0, none⟩) hb).trans (hcs0 0 (by omega))
          have c0' : wr.cell? ⟨b, off, none⟩ = some (.string (ns 0)) := c0
          have c2 := hr.cell k hlt2
          have f2 := hr.free k
          have HST := hide (hr.store (F' := upT ns (k + 1)) k (.string (tl ns k)) (fun j _ hj => by simp only [upT]; congr 1; by_cases h : j < k <;> simp [h] <;> omega) (by simp [upT]))
          have HBL := hide hbl
          have ii0 : (k : Int) < (len : Int) := by omega
          have ii1 : (0 : Int) < (len : Int) := by omega
          clear hr hbl hcs0
          by_cases h8 : k < 8
          · have e : tl ns k = ns k := by unfold tl; rw [if_pos h8]
            rw [e] at HST
            clear e
            go_wp2_with fail
            go_roundw
            case rel => exact ⟨k + 1, by go_num, by omega, HST.out, HBL.out.setCell (p := ⟨w0.heap.size, k, none⟩) (Nat.le_refl _) _⟩
            case measure => simp [intOf]; omega
          · have e : tl ns k = ns 0 := by unfold tl; rw [if_neg h8]
            rw [e] at HST
            clear e
            go_wp2_with fail
            go_roundw
            case rel => exact ⟨k + 1, by go_num, by omega, HST.out, HBL.out.setCell (p := ⟨w0.heap.size, k, none⟩) (Nat.le_refl _) _⟩
            case measure => simp [intOf]; omega
        · obtain rfl : k = len := by omega
          have hgz := hr.lt
          have hcl : ∀ i, i < (told ns k).length → wr.cell? ⟨w0.heap.size, i, none⟩ = some (.string ((told ns k).getD i E)) := by
            intro i hi
            rw [told_len] at hi
            rw [told_get ns k i hi, hr.cell i hi]
            simp [upT, hi]
          have HCL := hide hcl
          have hz0 := HZ0.out
          have HBW := hide (hbl.mono (show w.heap.size ≤ w0.heap.size by omega))
          have hzw : w.heap.size < wr.heap.size := by omega
          clear hz0
          clear hr hbl hcl
          go_wp2_with fail
          refine (zzkept_any sz (some ⟨w0.heap.size, 0, none⟩) k k wr).mono ?_
          rintro e w5 ⟨rfl, hbox, hz5, hbl5⟩
          have hbox' : w5.cell? ⟨wr.heap.size, 0, none⟩ = some (.slice (some ⟨w0.heap.size, 0, none⟩) (told ns k).length k) := by rw [told_len]; exact hbox
          have HU0 := uno_made (sz := sz) (K := told ns k) HCL.out hgz hbox' hz5 hbl5 (by rw [told_len]; omega) (tl_sizes ns HN.out k)
          dsimp only at HU0
          have HB5 := hide ((((HQ.out.below w.heap.size)).trans HBW.out).trans (hbl5.mono (by omega)))
          clear hbox hbox' hbl5
          generalize hC : fresh sz (.func (Fn.func 16) #[] #[.pointer (some ⟨wr.heap.size, 0, none⟩)]) = C
          rw [hC] at HU0
          have HU := hide HU0
          clear HU0
          have hs : C.size = 15 := by rw [← hC]; rfl
          have hone : C.all (·.oneCell') = true := by rw [← hC]; exact fresh_one sz _
          have hth := there31 (heap_alloc_new w5 (.cells (fresh 0 .nilFunc) 31)) rfl
          rw [← hs] at hth
          have hi5 : (Try.prog.info? 31).map (·.size) = some C.size := by rw [hs]; exact info31
          go_wp2_with (refine wpList_store_mid rfl 31 _ _ rfl w5.heap.size 0 C rfl rfl hth hi5 hone ?_)
          obtain ⟨kv, hkv⟩ : ∃ kv, kv = Value.func (Fn.func 16) #[] #[.pointer (some ⟨wr.heap.size, 0, none⟩)] := ⟨_, rfl⟩
          have HU1 := HU.out.1
          have HT1 := HU.out.2.1
          have HBB := HU.out.2.2
          generalize hw6 : (w5.alloc (.cells (fresh 0 .nilFunc) 31)).setCells w5.heap.size 0 C.toList = w6 at HU1 HT1 HBB
          rw [← hkv] at HU1 HT1
          have HU6 := hide HU1
          have HT6 := hide HT1
          have HB6 := hide (HB5.out.trans (HBB.mono (by omega)))
          have hz6 : w.heap.size < w5.heap.size := by omega
          clear HU1 HT1 HBB HU hth hi5 hone hs hkv hC HBW HCL HB5
          go_loopw [9] (fun t wx => ∃ i : Nat, t = .int .i64 i ∧ i ≤ k ∧ Hid (Uno w6 w5.heap.size sz kv (some (told ns k)) (.inl (lst ns i, false)) wx)) (fun t _ => k - (intOf t).toNat)
          case atStart =>
            have HU7 : Hid (Uno w6 w5.heap.size sz kv (some (told ns k)) (.inl (lst ns 0, false)) ((w5.alloc (.cells (fresh 0 .nilFunc) 31)).setCells w5.heap.size 0 C.toList)) := by rw [hw6]; exact HU6
            exact ⟨0, rfl, Nat.zero_le _, HU7⟩
          case round =>
            obtain ⟨i, rfl, hi', HV⟩ := hrel
            clear HU6 hw6
            by_cases hlt3 : i < k
            · obtain ⟨b, off, rfl, hb, hcs⟩ := HA.out (by omega)
              have hn6 : w6.cell? ⟨b, off + i, none⟩ = some (.string (ns i)) := (HB6.out.cell (p := ⟨b, off + i, none⟩) hb).trans (hcs i hlt3)
              have cn := HV.out.cell (b := b) (by omega) hn6
              obtain ⟨hsay, hst⟩ := pass_one HUU.out (told ns k) hlt3
              have hC1 := (HV.out.step HT6.out (by show (lst ns i).length ≤ _; rw [lst_len, told_len]; omega) (by show (lst ns i).length ≤ 8192; rw [lst_len]; omega) hsz (ns i) (HN.out i)).mono
                (R' := fun e w' => e = .returned (.bool true) ∧ Hid (Uno w6 w5.heap.size sz kv (some (told ns k)) (.inl (lst ns (i + 1), false)) w'))
                (fun e w' h => ⟨by rw [h.1, hsay], by rw [← hst]; exact h.2⟩)
              have HC1 := hide hC1
              clear hC1 hsay hst hn6 hcs
              have ii0 : (i : Int) < (k : Int) := by omega
              go_wp2_with fail
              refine HC1.out.mono ?_
              rintro e w' ⟨rfl, HD1⟩
              go_wp2_with fail
              go_roundw
              case rel => exact ⟨i + 1, by go_num, by omega, HD1⟩
              case measure => simp [intOf]; omega
            · obtain rfl : i = k := by omega
              go_wp2_with fail
              go_loopw [10] (fun t wx => ∃ l : Nat, t = .int .i64 l ∧ l ≤ i ∧ Hid (Uno w6 w5.heap.size sz kv (some (told ns i)) (st2 ns i l) wx)) (fun t _ => i - (intOf t).toNat)
              case atStart => exact ⟨0, rfl, Nat.zero_le _, by rw [st2_zero]; exact HV⟩
              case round =>
                obtain ⟨l, rfl, hl', HX⟩ := hrel
                clear HV
                by_cases hlt4 : l < i
                · obtain ⟨b, off, rfl, hb, hcs⟩ := HA.out (by omega)
                  have hn6 : w6.cell? ⟨b, off + l, none⟩ = some (.string (ns l)) := (HB6.out.cell (p := ⟨b, off + l, none⟩) hb).trans (hcs l hlt4)
                  have cn := HX.out.cell (b := b) (by omega) hn6
                  obtain ⟨hsay, hst⟩ := pass_two HUU.out hlt4
                  have hC1 := (HX.out.step HT6.out (st2_enough ns) (st2_fits ns h63 (by omega)) hsz (ns l) (HN.out l)).mono
                    (R' := fun e w' => e = .returned (.bool (decide (8 ≤ l))) ∧ Hid (Uno w6 w5.heap.size sz kv (some (told ns i)) (st2 ns i (l + 1)) w'))
                    (fun e w' h => ⟨by rw [h.1, hsay], by rw [← hst]; exact h.2⟩)
                  have HC1 := hide hC1
                  clear hC1 hsay hst hn6 hcs
                  have ii0 : (l : Int) < (i : Int) := by omega
                  by_cases h8 : 8 ≤ l
                  · rw [decide_eq_true h8] at HC1
                    have ii1 : (8 : Int) ≤ (l : Int) := by omega
                    go_wp2_with fail
                    refine HC1.out.mono ?_
                    rintro e w' ⟨rfl, HD1⟩
                    go_wp2_with fail
                    go_roundw
                    case rel => exact ⟨l + 1, by go_num, by omega, HD1⟩
                    case measure => simp [intOf]; omega
                  · rw [decide_eq_false h8] at HC1
                    have ii1 : ¬ (8 : Int) ≤ (l : Int) := by omega
                    go_wp2_with fail
                    refine HC1.out.mono ?_
                    rintro e w' ⟨rfl, HD1⟩
                    go_wp2_with fail
                    go_roundw
                    case rel => exact ⟨l + 1, by go_num, by omega, HD1⟩
                    case measure => simp [intOf]; omega
                · go_wp2_with fail
                  go_ret
                  exact ⟨rfl, HB6.out.trans (HX.out.below.mono (by omega))⟩

/-! ### The row's frame -/
set_option maxRecDepth 100000 in
theorem lifted (os : Os) (started : os.Started) (H : Type) (enc : TypeId × Value → H) :
    ReturnsInHanded {} Try.checked os 5 .any (Rows.fnKeptNamesTrustsKeptSpec.pre6 enc Try.prog Try.f5 Rows.fnKeptNamesTrustsKeptRow.domain false) (Rows.fnKeptNamesTrustsKeptSpec.post enc Try.prog Try.f5 false true false false) := by
  refine returnsInHanded_of_change (C := Try.checked) own started (by kernel_rfl) Try.func5
    (ChangeSpec.witness6 (enc := enc) (C := Try.checked) false ⟨#[], #[.int .i64 0, .slice none 0 0], []⟩ 8 (by kernel_rfl) (by kernel_rfl) (by kernel_rfl) (by kernel_rfl)) ?_
  intro W base args ds gs before hval0 hW hcnd _
  have hval : ∀ (j : Nat) t v, Try.f5.params[j]? = some t → args[j]? = some v → Value.okWide Try.prog W .any base t v := hval0
  have hW' := hW
  obtain ⟨p, q, hA0, hV, rfl, hfz, hnd⟩ := hW
  have hA : DataW.TrodAll enc Try.prog W 0 (fun _ => true) true Try.f5.params.toList args.toList ds p := hA0
  rw [Try.params5] at hA hval
  obtain ⟨v0, vs0, d0, ds0, p0, q0, hargs, rfl, rfl, h0, r0⟩ := trodAll_cons hA
  obtain ⟨v1, vs1, d1, ds1, p1, q1, rfl, rfl, rfl, h1, r1⟩ := trodAll_cons r0
  obtain ⟨rfl, rfl, rfl⟩ := trodAll_nil r1
  obtain rfl : args = #[v0, v1] := by cases args; simp_all
  obtain ⟨rfl, rfl⟩ := trodVars_none hV
  obtain ⟨a0, rfl, rfl, rfl, w0⟩ := open_int Try.underlying3 (hval 0 3 v0 rfl rfl) h0
  obtain ⟨a1, len1, cap1, rfl⟩ := okWide_slice Try.underlying22 (hval 1 22 v1 rfl rfl)
  have k1 := h1
  have lt1 : ∀ x ∈ p1, x.block < W.heap.size := by obtain ⟨m, hm⟩ := k1; exact DataW.trod_lt m _ _ _ hm
  obtain ⟨hlen, ns, hns, hsize⟩ : Told W a1 len1 := by
    obtain ⟨fuel, hf⟩ := h1
    rcases open_strings Try.underlying22 Try.underlying9 (by kernel_rfl) hf with ⟨hcs, _⟩ | ⟨x, l, c, ss, hcs, _, hl, hm, hz, _, hcell, hws⟩
    · simp [Value.cells] at hcs
      obtain ⟨rfl, rfl, rfl⟩ := hcs
      exact ⟨Nat.zero_le _, fun _ => ByteArray.empty, fun h => absurd h (Nat.lt_irrefl _), fun _ => Nat.zero_le _⟩
    · simp [Value.cells] at hcs
      obtain ⟨rfl, rfl, rfl⟩ := hcs
      exact ⟨Nat.le_trans hl hm, fun i => ss.getD i ByteArray.empty, arg_of hl (by simpa using hz) hcell, sizes_of hws⟩
  clear hA0 hval0
  refine (walk a0 a1 len1 cap1 ns W hlen hns hsize).mono fun e W' ⟨he, bel⟩ => ?_
  subst he
  exact ⟨_, rfl, _, _, _, [], _, [], hW', trodAll_mk1 (shut_bool Try.underlying4 _), (trodAll_cons_mk (shut_int Try.underlying3 w0) (trodAll_cons_mk (Below.trod laidOut (by kernel_rfl) (of_decide_eq_true (by kernel_rfl)) k1 bel lt1) trodAll_mk0)), rfl, bel.frame _, fun h => by cases h⟩

theorem over : Rows.fnKeptNamesTrustsKeptRow.holds Try.pinned (OpenSpec.ofChange Rows.fnKeptNamesTrustsKeptSpec) :=
  OpenClaim.holds_of_wide 5 Try.f5 rfl rfl rfl rfl rfl rfl rfl ⟨rfl, rfl, rfl, rfl, rfl⟩ rfl rfl rfl rfl rfl (by kernel_rfl) Try.func5 (by kernel_rfl)
    (of_decide_eq_true (by kernel_rfl)) (by unfold Func.isWrapper; first | (rw [if_pos (by decide +kernel)]; kernel_rfl) | (rw [if_neg (by decide +kernel)]; exact ⟨rfl, rfl⟩))
    (fun os started H enc _ => lifted os started H enc)

theorem proved : Rows.FnKeptNamesTrustsKeptSaid := over
#print axioms proved
end Go.Proofs.Qxb6604378a.fnKeptNamesTrustsKept
