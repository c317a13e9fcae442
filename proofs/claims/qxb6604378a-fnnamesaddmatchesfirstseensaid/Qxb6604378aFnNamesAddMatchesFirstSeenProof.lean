/-
  'Rows.FnNamesAddMatchesFirstSeenSaid': two sets that keep their names themselves, one script.
-/
import Derived.Test.Qxb6604378aRows
import Derived.Test.Qxb6604378aDuo
import Derived.Test.Qxb6604378aRow
import Derived.WalkKit
import Derived.ProofKit
import Derived.OpenShut
import Derived.ShutString
import Derived.ChangeOld
import Derived.SliceStrings
import Derived.Below
import Derived.Deep.RegionHeld3
namespace Go.Proofs.Qxb6604378a.fnNamesAddMatchesFirstSeen
open Go.ChangeShapes Go.WideShapes Go.ChangeAt Go.RowKit
open Go.ChangeMaps (open_string shut_string)
set_option linter.unusedVariables false
set_option linter.unusedSimpArgs false

theorem quiet_drew (w : World) : Quiet w w.drew := ⟨rfl, rfl, rfl, rfl⟩

set_option maxRecDepth 100000 in
set_option maxHeartbeats 2000000 in
theorem walk (z : Int) (a : Option Addr) (len cap : Nat) (ns : Nat → ByteArray) (w : World) (hl : len ≤ maxLen) (hA : Arg w a len ns) (hn : ∀ i, (ns i).size ≤ maxLen) :
    Calls Try.prog 3 #[.int .i64 z, .slice a len cap] w fun e w' => e = .returned (.bool true) ∧ Below w.heap.size w w' := by
  have HA := hide hA
  have HN := hide hn
  have HL := hide hl
  clear hA hn hl
  go_enter Try.func3, Try.ntmps3
  go_wp2_with fail
  refine (zz6 z a len cap ns w HL.out HA.out HN.out).mono ?_
  rintro e w' ⟨b, rfl, hw, hb⟩
  obtain rfl := hw
  cases b
  · clear hb
    go_wp2_with fail
    go_ret
    exact ⟨rfl, Below.refl _ _⟩
  obtain ⟨hb1, hb2⟩ := hb rfl
  have HB2 := hide hb2
  clear hb2 hb
  by_cases h4 : 4096 < len
  · go_wp2_with fail
    go_ret
    exact ⟨rfl, Below.refl _ _⟩
  go_wp2_with fail
  refine (bytes_any a len cap ns w (by omega) HA.out HB2.out).mono ?_
  rintro e w' ⟨n, rfl, hw⟩
  obtain rfl := hw
  by_cases h5 : 1048576 < n
  · go_wp2_with fail
    go_ret
    exact ⟨rfl, Below.refl _ _⟩
  by_cases h6 : z < 0
  · go_wp2_with fail
    go_ret
    exact ⟨rfl, Below.refl _ _⟩
  obtain ⟨sz, rfl⟩ := Int.eq_ofNat_of_zero_le (a := z) (by omega)
  by_cases h7 : 65536 < sz
  · go_wp2_with fail
    go_ret
    exact ⟨rfl, Below.refl _ _⟩
  go_wp2_with fail
  refine (first_any a len cap ns w (by omega) HA.out).mono ?_
  rintro e w1 ⟨rfl, hr1, hbl1⟩
  have HR1 := hide hr1
  have HBL1 := hide hbl1
  clear hr1 hbl1
  go_wp2_with fail
  refine (keptNames_nil sz _).mono ?_
  rintro e w2 ⟨rfl, hbl2⟩
  have HBL2 := hide hbl2
  clear hbl2
  generalize hC : fresh sz .nilFunc = C
  have hs : C.size = 15 := by rw [← hC]; rfl
  have hone : C.all (·.oneCell') = true := by rw [← hC]; exact fresh_one_nil sz
  have hth := there31 (heap_alloc_new w2 (.cells (fresh 0 .nilFunc) 31)) rfl
  rw [← hs] at hth
  have hi : (Try.prog.info? 31).map (·.size) = some C.size := by rw [hs]; exact info31
  go_wp2_with (refine wpList_store_mid rfl 31 _ _ rfl w2.heap.size 0 C rfl rfl hth hi hone ?_)
  have hduo := Duo.made (sz := sz) HR1.out.lt HR1.out HBL1.out HBL2.out
  rw [hC] at hduo
  have h63 : len ≤ 4096 := by omega
  have hsz : sz ≤ 65536 := by omega
  have HD0 := hide hduo
  clear hduo hth hi hs hone h4 h5 h6 h7 hC HBL1 HBL2 HR1 HB2
  go_loopw [8] (fun t wr => ∃ k : Nat, t = .int .i64 k ∧ k ≤ len ∧ Hid (Duo w w1.heap.size w2.heap.size sz len ns k k wr)) (fun t _ => len - (intOf t).toNat)
  case atStart => exact ⟨0, rfl, Nat.zero_le _, HD0⟩
  case round =>
    obtain ⟨k, rfl, hk, HD⟩ := hrel
    clear HD0
    by_cases hlt : k < len
    · obtain ⟨b, off, rfl, hb, hcs⟩ := HA.out (by omega)
      have hck := hcs k hlt
      clear hcs
      have ck := HD.out.name hb hck
      have cw := HD.out.want k hlt
      have e1 : twice ns len k = ns k := by unfold twice; rw [if_pos hlt]
      have hC1 := fun wx (hq : Quiet wr wx) => ((HD.out.quiet hq).one (by omega) HN.out).mono (R' := fun e w' => e = .returned (.bool (nw ns k)) ∧ Hid (Duo w w1.heap.size w2.heap.size sz len ns (k + 1) k w') ∧ w'.cell? ⟨b, off + k, none⟩ = some (.string (ns k)) ∧ w'.cell? ⟨w.heap.size, k, none⟩ = some (.bool (nw ns k)))
        (fun e w' h => ⟨by rw [h.1, twice_one ns len k hlt], h.2, h.2.name hb hck, h.2.want k hlt⟩)
      have hC2 := fun wx (hd : Duo w w1.heap.size w2.heap.size sz len ns (k + 1) k wx) => (hd.swap (by omega) hsz HN.out).mono (R' := fun e w' => e = .returned (.bool (nw ns k)) ∧ Hid (Duo w w1.heap.size w2.heap.size sz len ns (k + 1) (k + 1) w') ∧ w'.cell? ⟨b, off + k, none⟩ = some (.string (ns k)) ∧ w'.cell? ⟨w.heap.size, k, none⟩ = some (.bool (nw ns k)))
        (fun e w' h => ⟨by rw [h.1, twice_one ns len k hlt], h.2, h.2.name hb hck, h.2.want k hlt⟩)
      rw [e1] at hC1 hC2
      have HC1 := hide hC1
      have HC2 := hide hC2
      clear hC1 hC2 e1 hck
      obtain ⟨q, hq⟩ : ∃ q, q = nw ns k := ⟨_, rfl⟩
      rw [← hq] at cw HC1 HC2
      clear hq
      have hqq : (q != q) = false := by cases q <;> rfl
      have i0 : (k : Int) < (len : Int) := by omega
      go_wp2_with fail
      go_region_held3 (fun w' => w'.cell? ⟨b, off + k, none⟩ = some (.string (ns k)) ∧ w'.cell? ⟨w.heap.size, k, none⟩ = some (.bool q)) (simp [go_sem, *])
        ((go_at_call 10; refine (HC1.out _ (quiet_drew _)).mono ?_; rintro e w' ⟨rfl, HD1, hc1, hc2⟩))
      all_goals go_wp2_with fail
      go_region_held3 (fun w' => w'.cell? ⟨b, off + k, none⟩ = some (.string (ns k)) ∧ w'.cell? ⟨w.heap.size, k, none⟩ = some (.bool q)) (simp [go_sem, *])
        ((go_at_call 10; refine (HC2.out _ (HD1.out.quiet (quiet_drew _))).mono ?_; rintro e w'' ⟨rfl, HD2, hc3, hc4⟩))
      all_goals go_wp2_with fail
      go_roundw
      case rel => exact ⟨k + 1, by go_num, by omega, HD2⟩
      case measure => simp [intOf]; omega
    · obtain rfl : k = len := by omega
      go_wp2_with fail
      go_loopw [9] (fun t wr => ∃ j : Nat, t = .int .i64 j ∧ j ≤ k ∧ Hid (Duo w w1.heap.size w2.heap.size sz k ns (k + j) (k + j) wr)) (fun t _ => k - (intOf t).toNat)
      case atStart => exact ⟨0, rfl, Nat.zero_le _, HD⟩
      case round =>
        obtain ⟨j, rfl, hj, HE⟩ := hrel
        clear HD
        by_cases hlt2 : j < k
        · obtain ⟨b, off, rfl, hb, hcs⟩ := HA.out (by omega)
          have hck := hcs j hlt2
          clear hcs
          have ck := HE.out.name hb hck
          have e1 : twice ns k (k + j) = ns j := by unfold twice; rw [if_neg (by omega), Nat.add_sub_cancel_left]
          have hC1 := (HE.out.one (by omega) HN.out).mono (R' := fun e w' => e = .returned (.bool false) ∧ Hid (Duo w w1.heap.size w2.heap.size sz k ns (k + j + 1) (k + j) w') ∧ w'.cell? ⟨b, off + j, none⟩ = some (.string (ns j)))
            (fun e w' h => ⟨by rw [h.1, twice_two ns k j hlt2], h.2, h.2.name hb hck⟩)
          have hC2 := fun wx (hd : Duo w w1.heap.size w2.heap.size sz k ns (k + j + 1) (k + j) wx) => (hd.swap (by omega) hsz HN.out).mono (R' := fun e w' => e = .returned (.bool false) ∧ Hid (Duo w w1.heap.size w2.heap.size sz k ns (k + (j + 1)) (k + (j + 1)) w'))
            (fun e w' h => ⟨by rw [h.1, twice_two ns k j hlt2], h.2⟩)
          rw [e1] at hC1 hC2
          have HC1 := hide hC1
          have HC2 := hide hC2
          clear hC1 hC2 e1 hck
          have i0 : (j : Int) < (k : Int) := by omega
          go_wp2_with fail
          refine HC1.out.mono ?_
          rintro e w' ⟨rfl, HD1, hc1⟩
          go_wp2_with fail
          refine (HC2.out _ HD1.out).mono ?_
          rintro e w'' ⟨rfl, HD2⟩
          go_wp2_with fail
          go_roundw
          case rel => exact ⟨j + 1, by go_num, by omega, HD2⟩
          case measure => simp [intOf]; omega
        · go_wp2_with fail
          go_ret
          exact ⟨rfl, HE.out.below⟩

/-! ### The row's frame -/
set_option maxRecDepth 100000 in
theorem lifted (os : Os) (started : os.Started) (H : Type) (enc : TypeId × Value → H) :
    ReturnsInHanded {} Try.checked os 3 .any (Rows.fnNamesAddMatchesFirstSeenSpec.pre6 enc Try.prog Try.f3 Rows.fnNamesAddMatchesFirstSeenRow.domain false) (Rows.fnNamesAddMatchesFirstSeenSpec.post enc Try.prog Try.f3 false true false false) := by
  refine returnsInHanded_of_change (C := Try.checked) own started (by kernel_rfl) Try.func3
    (ChangeSpec.witness6 (enc := enc) (C := Try.checked) false ⟨#[], #[.int .i64 0, .slice none 0 0], []⟩ 8 (by kernel_rfl) (by kernel_rfl) (by kernel_rfl) (by kernel_rfl)) ?_
  intro W base args ds gs before hval0 hW hcnd _
  have hval : ∀ (j : Nat) t v, Try.f3.params[j]? = some t → args[j]? = some v → Value.okWide Try.prog W .any base t v := hval0
  have hW' := hW
  obtain ⟨p, q, hA0, hV, rfl, hfz, hnd⟩ := hW
  have hA : DataW.TrodAll enc Try.prog W 0 (fun _ => true) true Try.f3.params.toList args.toList ds p := hA0
  rw [Try.params3] at hA hval
  obtain ⟨v0, vs0, d0, ds0, p0, q0, hargs, rfl, rfl, h0, r0⟩ := trodAll_cons hA
  obtain ⟨v1, vs1, d1, ds1, p1, q1, rfl, rfl, rfl, h1, r1⟩ := trodAll_cons r0
  obtain ⟨rfl, rfl, rfl⟩ := trodAll_nil r1
  obtain rfl : args = #[v0, v1] := by cases args; simp_all
  obtain ⟨rfl, rfl⟩ := trodVars_none hV
  obtain ⟨a0, rfl, rfl, rfl, w0⟩ := open_int Try.underlying3 (hval 0 3 v0 rfl rfl) h0
  obtain ⟨a1, len1, cap1, rfl⟩ := okWide_slice Try.underlying22 (hval 1 22 v1 rfl rfl)
  have k1 := h1
  have lt1 : ∀ x ∈ p1, x.block < W.heap.size := by obtain ⟨m, hm⟩ := k1; exact DataW.trod_lt m _ _ _ hm
  obtain ⟨hlen, ns, hns, hsize⟩ : Told W a1 len1 := by
    obtain ⟨fuel, hf⟩ := h1
    rcases open_strings Try.underlying22 Try.underlying9 (by kernel_rfl) hf with ⟨hcs, _⟩ | ⟨x, l, c, ss, hcs, _, hl, hm, hz, _, hcell, hws⟩
    · simp [Value.cells] at hcs
      obtain ⟨rfl, rfl, rfl⟩ := hcs
      exact ⟨Nat.zero_le _, fun _ => ByteArray.empty, fun h => absurd h (Nat.lt_irrefl _), fun _ => Nat.zero_le _⟩
    · simp [Value.cells] at hcs
      obtain ⟨rfl, rfl, rfl⟩ := hcs
      exact ⟨Nat.le_trans hl hm, fun i => ss.getD i ByteArray.empty, arg_of hl (by simpa using hz) hcell, sizes_of hws⟩
  clear hA0 hval0
  refine (walk a0 a1 len1 cap1 ns W hlen hns hsize).mono fun e W' ⟨he, bel⟩ => ?_
  subst he
  exact ⟨_, rfl, _, _, _, [], _, [], hW', trodAll_mk1 (shut_bool Try.underlying4 _), (trodAll_cons_mk (shut_int Try.underlying3 w0) (trodAll_cons_mk (Below.trod laidOut (by kernel_rfl) (of_decide_eq_true (by kernel_rfl)) k1 bel lt1) trodAll_mk0)), rfl, bel.frame _, fun h => by cases h⟩

theorem over : Rows.fnNamesAddMatchesFirstSeenRow.holds Try.pinned (OpenSpec.ofChange Rows.fnNamesAddMatchesFirstSeenSpec) :=
  OpenClaim.holds_of_wide 3 Try.f3 rfl rfl rfl rfl rfl rfl rfl ⟨rfl, rfl, rfl, rfl, rfl⟩ rfl rfl rfl rfl rfl (by kernel_rfl) Try.func3 (by kernel_rfl)
    (of_decide_eq_true (by kernel_rfl)) (by unfold Func.isWrapper; first | (rw [if_pos (by decide +kernel)]; kernel_rfl) | (rw [if_neg (by decide +kernel)]; exact ⟨rfl, rfl⟩))
    (fun os started H enc _ => lifted os started H enc)

theorem proved : Rows.FnNamesAddMatchesFirstSeenSaid := over
#print axioms proved
end Go.Proofs.Qxb6604378a.fnNamesAddMatchesFirstSeen
