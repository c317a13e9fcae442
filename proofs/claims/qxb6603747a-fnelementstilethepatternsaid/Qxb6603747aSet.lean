/-
  THE WALK of glob.set: it answers what the plain functions setP, setN say.
-/
import Derived.Test.Qxb6603747aWords
import Derived.Test.Qxb6603747aGram
import Derived.Deep.RegionWith
import Derived.Deep.DeepCutAuto
import Derived.Deep.CutBlock
import Derived.WalkSpells
namespace Go.Proofs.Qxb6603747a
open Go.RowKit
set_option linter.unusedSimpArgs false

theorem hide {p : Prop} (h : p) : Hid p := h

def Z4 : Obj := .cells #[.int .u64 0, .int .u64 0, .int .u64 0, .int .u64 0] 38

theorem cls_zero (w : World) : Cls (w.alloc Z4) w.heap.size 38 (Pl.cov []) := by
  unfold Cls Z4
  rw [Pl.cov_nil]
  simp only [wv, Pl.word_none]
  show (w.heap.push _)[w.heap.size]? = _
  simp

theorem cls_congr {w : World} {B T : Nat} {p q : Nat → Bool} (h : Cls w B T p) (e : p = q) : Cls w B T q := e ▸ h

theorem neg_in (s : ByteArray) (i : Nat) (h : i < s.size) : Pl.neg s i = ((s[i].toNat : Int) == 94) := by
  unfold Pl.neg
  rw [← Pl.bt_eq s i h, Bool.eq_iff_iff]
  simp [h]; omega
theorem neg_out (s : ByteArray) (i : Nat) (h : ¬ i < s.size) : Pl.neg s i = false := by
  unfold Pl.neg
  simp [h]
theorem beg_neg (s : ByteArray) (i : Nat) : Pl.beg s i = if Pl.neg s i then i + 1 else i := by
  unfold Pl.beg Pl.neg
  simp

theorem rel_next (s : ByteArray) (k d : Nat) (l A : List (Nat × Nat)) (S : Nat) (hlt : k < s.size) (h93 : Pl.bt s k ≠ 93) (hA : l ++ Pl.all s k = A) (hS : Pl.stop s k = S) (hd : Pl.wid s k = d) :
    (l ++ [Pl.itm s k]) ++ Pl.all s (k + d) = A ∧ Pl.stop s (k + d) = S ∧ k + d ≤ s.size := by
  subst hd
  refine ⟨?_, ?_, Pl.wid_le s k hlt⟩
  · rw [← hA, Pl.all_go s k hlt h93]; simp
  · rw [← hS, Pl.stop_go s k hlt h93]

theorem one_is (v b : Nat) : (v == b) = (decide (b ≤ v) && decide (v ≤ b)) := by
  rw [Bool.eq_iff_iff]; simp; omega

theorem cov_one (l : List (Nat × Nat)) (x : Nat × Nat) (b : Nat) (h : x = (b, b)) : (fun v => Pl.cov l v || v == b) = Pl.cov (l ++ [x]) := by
  rw [Pl.cov_snoc, h]; funext v; simp only [one_is]

theorem cov_two (l : List (Nat × Nat)) (x : Nat × Nat) (a b lo hi : Nat) (h : x = (min a b, max a b)) (h1 : lo = min a b) (h2 : hi = max a b) : (fun v => Pl.cov l v || (decide (lo ≤ v) && decide (v ≤ hi))) = Pl.cov (l ++ [x]) := by
  rw [Pl.cov_snoc, h, h1, h2]

/-! The five ways through the round. -/
theorem way1 (s : ByteArray) (k : Nat) (hlt : k < s.size) (h : ((s[k]'hlt).toNat : Int) = 92) (h1 : k + 1 < s.size) : Pl.itm s k = ((s[k + 1]'h1).toNat, (s[k + 1]'h1).toNat) ∧ Pl.wid s k = 2 := by
  have hb : Pl.bt s k = 92 := by rw [← Pl.bt_eq s k hlt]; omega
  simp [Pl.itm, Pl.wid, hb, h1, Pl.bt_eq s (k + 1) h1]
theorem way2 (s : ByteArray) (k : Nat) (hlt : k < s.size) (h1 : ¬ k + 1 < s.size) : Pl.itm s k = ((s[k]'hlt).toNat, (s[k]'hlt).toNat) ∧ Pl.wid s k = 1 := by
  have h2 : ¬ k + 2 < s.size := by omega
  simp [Pl.itm, Pl.wid, h1, h2, Pl.bt_eq s k hlt]
theorem way3 (s : ByteArray) (k : Nat) (hlt : k < s.size) (h : ¬ ((s[k]'hlt).toNat : Int) = 92) (h1 : k + 1 < s.size) (h2 : k + 2 < s.size) (h45 : ((s[k + 1]'h1).toNat : Int) = 45) :
    Pl.itm s k = (min (s[k]'hlt).toNat (s[k + 2]'h2).toNat, max (s[k]'hlt).toNat (s[k + 2]'h2).toNat) ∧ Pl.wid s k = 3 := by
  have hb : ¬ Pl.bt s k = 92 := by rw [← Pl.bt_eq s k hlt]; omega
  have hc : Pl.bt s (k + 1) = 45 := by rw [← Pl.bt_eq s (k + 1) h1]; omega
  simp [Pl.itm, Pl.wid, hb, hc, h2, Pl.bt_eq s k hlt, Pl.bt_eq s (k + 2) h2]
theorem way4 (s : ByteArray) (k : Nat) (hlt : k < s.size) (h : ¬ ((s[k]'hlt).toNat : Int) = 92) (h1 : k + 1 < s.size) (h45 : ¬ ((s[k + 1]'h1).toNat : Int) = 45) : Pl.itm s k = ((s[k]'hlt).toNat, (s[k]'hlt).toNat) ∧ Pl.wid s k = 1 := by
  have hb : ¬ Pl.bt s k = 92 := by rw [← Pl.bt_eq s k hlt]; omega
  have hc : ¬ Pl.bt s (k + 1) = 45 := by rw [← Pl.bt_eq s (k + 1) h1]; omega
  simp [Pl.itm, Pl.wid, hb, hc, Pl.bt_eq s k hlt]
theorem way5 (s : ByteArray) (k : Nat) (hlt : k < s.size) (h : ¬ ((s[k]'hlt).toNat : Int) = 92) (h2 : ¬ k + 2 < s.size) : Pl.itm s k = ((s[k]'hlt).toNat, (s[k]'hlt).toNat) ∧ Pl.wid s k = 1 := by
  have hb : ¬ Pl.bt s k = 92 := by rw [← Pl.bt_eq s k hlt]; omega
  simp [Pl.itm, Pl.wid, hb, h2, Pl.bt_eq s k hlt]
theorem bt93 (s : ByteArray) (k : Nat) (hlt : k < s.size) (h : ¬ ((s[k]'hlt).toNat : Int) = 93) : Pl.bt s k ≠ 93 := by
  rw [← Pl.bt_eq s k hlt]; omega

/-- The words below k turned over. -/
def flip (p : Nat → Bool) (k : Nat) : Nat → Bool := fun v => p v != decide (v / 64 < k)

theorem flip_at (p : Nat → Bool) (k : Nat) : Pl.word (flip p k) k = Pl.word p k := by
  apply Pl.word_congr
  intro j hj
  have : ¬ (64 * k + j) / 64 < k := by omega
  simp [flip, this]
theorem flip_next (p : Nat → Bool) (k : Nat) : bits .xor .u64 18446744073709551615 (Pl.word (flip p k) k : Nat) = (Pl.word (flip p (k + 1)) k : Nat) := by
  have h : Pl.word (flip p (k + 1)) k = Pl.word (fun v => !p v) k := by
    apply Pl.word_congr
    intro j hj
    have : (64 * k + j) / 64 < k + 1 := by omega
    simp [flip, this]
  have hx := bits_xor_u64_nat 18446744073709551615 (Pl.word (flip p k) k) (by decide) (Pl.word_lt _ _)
  rw [h, Pl.word_not, ← flip_at p k]
  exact hx
theorem flip_else (p : Nat → Bool) (k j : Nat) (h : j ≠ k) : Pl.word (flip p (k + 1)) j = Pl.word (flip p k) j := by
  apply Pl.word_congr
  intro i hi
  have : decide ((64 * j + i) / 64 < k + 1) = decide ((64 * j + i) / 64 < k) := by
    rw [decide_eq_decide]; omega
  simp only [flip, this]
theorem flip_start (p : Nat → Bool) : flip p 0 = p := by funext v; simp [flip]
theorem flip_end (p : Nat → Bool) (k : Nat) (hk : k < 4) : Pl.word (flip p 4) k = Pl.word (fun v => !p v) k := by
  apply Pl.word_congr
  intro j hj
  have : (64 * k + j) / 64 < 4 := by omega
  simp [flip, this]

/-- The four words stored back where they lay. -/
def again (w : World) (B : Nat) (p : Nat → Bool) : World :=
  (((w.setCell ⟨B, 0, none⟩ (.int .u64 (Pl.word p 0 : Nat))).setCell ⟨B, 1, none⟩ (.int .u64 (Pl.word p 1 : Nat))).setCell ⟨B, 2, none⟩ (.int .u64 (Pl.word p 2 : Nat))).setCell ⟨B, 3, none⟩ (.int .u64 (Pl.word p 3 : Nat))
theorem Cls.again {w : World} {B T : Nat} {p : Nat → Bool} (h : Cls w B T p) : Cls (again w B p) B T p :=
  (((h.store 0 (by omega) (fun _ _ _ => rfl) _ rfl).store 1 (by omega) (fun _ _ _ => rfl) _ rfl).store 2 (by omega) (fun _ _ _ => rfl) _ rfl).store 3 (by omega) (fun _ _ _ => rfl) _ rfl
theorem below_again {w wx : World} {B : Nat} {p : Nat → Bool} (h : Below B w wx) : Below B w (again wx B p) :=
  (((h.setCell (p := ⟨B, 0, none⟩) (Nat.le_refl B) _).setCell (p := ⟨B, 1, none⟩) (Nat.le_refl B) _).setCell (p := ⟨B, 2, none⟩) (Nat.le_refl B) _).setCell (p := ⟨B, 3, none⟩) (Nat.le_refl B) _

theorem setN_in (s : ByteArray) (i j k : Nat) (hj : j = Pl.beg s i) (hk : k = Pl.stop s j) (h : k < s.size) : Pl.setN s i = k + 1 := by
  unfold Pl.setN; rw [← hj, ← hk, if_pos h]
theorem setN_out (s : ByteArray) (i j k : Nat) (hj : j = Pl.beg s i) (hk : k = Pl.stop s j) (h : ¬ k < s.size) : Pl.setN s i = k := by
  unfold Pl.setN; rw [← hj, ← hk, if_neg h]
theorem setP_no (s : ByteArray) (i j : Nat) (hj : j = Pl.beg s i) (hn : false = Pl.neg s i) : Pl.setP s i = Pl.cov (Pl.all s j) := by
  unfold Pl.setP; rw [← hj, ← hn]; funext v; simp
theorem setP_yes (s : ByteArray) (i j : Nat) (hj : j = Pl.beg s i) (hn : true = Pl.neg s i) : Pl.setP s i = fun v => !Pl.cov (Pl.all s j) v := by
  unfold Pl.setP; rw [← hj, ← hn]; funext v; simp
theorem cls_flip {w : World} {B T : Nat} {p : Nat → Bool} (h : Cls w B T (flip p 4)) : Cls w B T (fun v => !p v) := by
  unfold Cls at h ⊢
  simp only [wv, flip_end p 0 (by omega), flip_end p 1 (by omega), flip_end p 2 (by omega), flip_end p 3 (by omega)] at h
  exact h
theorem set_ret (P : Nat → Bool) (n : Int) (m : Nat) (e : m = n) :
    Ending.returned (.tuple #[.agg #[wv P 0, wv P 1, wv P 2, wv P 3], .int .i64 n]) = .returned (.tuple #[.agg #[wv P 0, wv P 1, wv P 2, wv P 3], .int .i64 (m : Int)]) := by rw [e]

set_option maxRecDepth 100000 in
set_option maxHeartbeats 2000000 in
theorem set_any (s : ByteArray) (i : Nat) (hs : s.size ≤ 1048576) (hi : i ≤ s.size) (w : World) :
    Calls Try.prog 19 #[.string s, .int .i64 (i : Int)] w fun e w' => e = .returned (.tuple #[.agg #[wv (Pl.setP s i) 0, wv (Pl.setP s i) 1, wv (Pl.setP s i) 2, wv (Pl.setP s i) 3], .int .i64 (Pl.setN s i : Nat)]) ∧ Below w.heap.size w w' := by
  obtain ⟨nb, hnb⟩ : ∃ b, b = Pl.neg s i := ⟨_, rfl⟩
  obtain ⟨j, hj⟩ : ∃ j, j = Pl.beg s i := ⟨_, rfl⟩
  have HNB : Hid (nb = Pl.neg s i) := hnb
  have HJ : Hid (j = Pl.beg s i) := hj
  have hjl : j ≤ s.size := by rw [hj]; exact (Pl.beg_le s i hi).2
  clear hnb hj
  obtain ⟨P, hP⟩ : ∃ P, P = Pl.setP s i := ⟨_, rfl⟩
  have HP := hide hP
  rw [← hP]
  clear hP
  go_enter Try.func19, Try.ntmps19
  go_upto_region 1 with fail
  go_cut [6] (fun v wx => v = .bool nb ∧ wx = w.alloc Z4)
  case first =>
    by_cases h : i < s.size
    · have e := neg_in s i h
      rw [← HNB.out] at e
      have HE : Hid (nb = ((s[i].toNat : Int) == 94)) := e
      clear e
      go_wp2_with fail
      go_meet
      case rel => exact ⟨by rw [HE.out], rfl⟩
    · have e := neg_out s i h
      rw [← HNB.out] at e
      have HE : Hid (nb = false) := e
      clear e
      go_wp2_with fail
      go_meet
      case rel => exact ⟨by rw [HE.out], rfl⟩
  case rest =>
    obtain ⟨rfl, rfl⟩ := hcut
    go_upto_if 18 with fail
    go_cut [1] (fun v wx => v = .int .i64 (j : Nat) ∧ wx = w.alloc Z4)
    case first =>
      have e := beg_neg s i
      rw [← HNB.out, ← HJ.out] at e
      cases nb
      · have HE : Hid (j = i) := by show j = i; simpa using e
        clear e
        go_wp2_with fail
        go_meet
        case rel => exact ⟨by rw [HE.out], rfl⟩
      · have HE : Hid (j = i + 1) := by show j = i + 1; simpa using e
        clear e
        go_wp2_with fail
        go_meet
        case rel => exact ⟨by rw [HE.out]; go_num, rfl⟩
    case rest =>
      obtain ⟨rfl, rfl⟩ := hcut
      go_upto_block 0 with fail
      go_cut [1] (fun v wx => v = .int .i64 (Pl.stop s j : Nat) ∧ Cls wx w.heap.size 38 (Pl.cov (Pl.all s j)) ∧ Below w.heap.size w wx ∧ wx.heap.size = w.heap.size + 1)
      case first =>
        clear HNB HJ HP
        go_wp2_with fail
        go_loopw [1] (fun t wr => ∃ k : Nat, t = .int .i64 k ∧ k ≤ s.size ∧ ∃ l, Cls wr w.heap.size 38 (Pl.cov l) ∧ Below w.heap.size w wr ∧ Hid (wr.heap.size = w.heap.size + 1) ∧ Hid (l ++ Pl.all s k = Pl.all s j) ∧ Hid (Pl.stop s k = Pl.stop s j)) (fun t _ => s.size - (intOf t).toNat)
        case atStart => exact ⟨j, rfl, hjl, [], cls_zero w, (Below.refl _ _).alloc (Nat.le_refl _) _, by show _ = _; simp, rfl, rfl⟩
        case round =>
          obtain ⟨k, rfl, hk, l, hc, hb, HSZ, HA, HS⟩ := hrel
          have fin : ∀ d, Pl.wid s k = d → k < s.size → Pl.bt s k ≠ 93 → ∀ w', Cls w' w.heap.size 38 (Pl.cov (l ++ [Pl.itm s k])) → Below w.heap.size wr w' → w'.heap.size = wr.heap.size →
              ∃ k' : Nat, Value.int .i64 ((k : Int) + d) = .int .i64 k' ∧ k' ≤ s.size ∧ ∃ l', Cls w' w.heap.size 38 (Pl.cov l') ∧ Below w.heap.size w w' ∧ Hid (w'.heap.size = w.heap.size + 1) ∧ Hid (l' ++ Pl.all s k' = Pl.all s j) ∧ Hid (Pl.stop s k' = Pl.stop s j) := by
            intro d hd hlt h93 w' hc' hb' hz'
            obtain ⟨r1, r2, r3⟩ := rel_next s k d l _ _ hlt h93 HA.out HS.out hd
            exact ⟨k + d, by go_num, r3, _, hc', hb.trans hb', hz'.trans HSZ.out, r1, r2⟩
          have FIN := hide fin
          clear fin
          by_cases hlt : k < s.size
          · have i0 : (k : Int) < (s.size : Int) := by omega
            by_cases h93 : ((s[k]'hlt).toNat : Int) = 93
            · have hb93 : (((s[k]'hlt).toNat : Int) != 93) = false := by rw [bne_eq_false_iff_eq]; exact h93
              have H93 := hide h93
              clear h93
              go_wp2_with fail
              go_meet
              case rel =>
                have h : Pl.bt s k = 93 := by rw [← Pl.bt_eq s k hlt]; have := H93.out; omega
                have e := HA.out
                rw [Pl.all_end s k (by omega), List.append_nil] at e
                have e2 := HS.out
                rw [Pl.stop_end s k (by omega)] at e2
                exact ⟨by rw [e2], by rw [← e]; exact hc, hb, HSZ.out⟩
            · have hb93 : (((s[k]'hlt).toNat : Int) != 93) = true := by rw [bne_iff_ne]; exact h93
              have H93 := hide (bt93 s k hlt h93)
              clear h93
              by_cases h92 : ((s[k]'hlt).toNat : Int) = 92
              · have hb92 : (((s[k]'hlt).toNat : Int) == 92) = true := by rw [beq_iff_eq]; exact h92
                by_cases h1 : k + 1 < s.size
                · have HW := hide (way1 s k hlt h92 h1)
                  have i1 : (k : Int) + 1 < (s.size : Int) := by omega
                  clear h92
                  go_wp2_with fail
                  refine (add_any w.heap.size 38 (s[k + 1]'h1).toNat (Pl.cov l) (UInt8.toNat_lt _) _ hc).mono ?_
                  rintro e w' ⟨rfl, hc', hb', hz'⟩
                  go_wp2_with fail
                  go_roundw
                  case rel => exact FIN.out 2 HW.out.2 hlt H93.out w' (cls_congr hc' (cov_one l _ _ HW.out.1)) hb' hz'
                  case measure => simp [intOf]; omega
                · have HW := hide (way2 s k hlt h1)
                  have i1 : ¬ (k : Int) + 1 < (s.size : Int) := by omega
                  have i2 : ¬ (k : Int) + 2 < (s.size : Int) := by omega
                  clear h92
                  go_wp2_with fail
                  refine (add_any w.heap.size 38 (s[k]'hlt).toNat (Pl.cov l) (UInt8.toNat_lt _) _ hc).mono ?_
                  rintro e w' ⟨rfl, hc', hb', hz'⟩
                  go_wp2_with fail
                  go_roundw
                  case rel => exact FIN.out 1 HW.out.2 hlt H93.out w' (cls_congr hc' (cov_one l _ _ HW.out.1)) hb' hz'
                  case measure => simp [intOf]; omega
              · have hb92 : (((s[k]'hlt).toNat : Int) == 92) = false := by rw [beq_eq_false_iff_ne]; exact h92
                by_cases h2 : k + 2 < s.size
                · have h1 : k + 1 < s.size := by omega
                  have i1 : (k : Int) + 1 < (s.size : Int) := by omega
                  have i2 : (k : Int) + 2 < (s.size : Int) := by omega
                  by_cases h45 : ((s[k + 1]'h1).toNat : Int) = 45
                  · have hb45 : (((s[k + 1]'h1).toNat : Int) == 45) = true := by rw [beq_iff_eq]; exact h45
                    have HW := hide (way3 s k hlt h92 h1 h2 h45)
                    have i5 : IntKind.i64.wrap ((k : Int) + 2) = (k : Int) + 2 := by rw [IntKind.wrap_i64]; omega
                    have i3 : (0 : Int) ≤ (k : Int) + 2 := by omega
                    have i4 : ((k : Int) + 2).toNat = k + 2 := by omega
                    clear h92 h45
                    go_wp2_with fail
                    refine wp_region_any (by kernel_rfl) ?_
                    change wpAny _ _ _ _ _ _ _ (World.drew _)
                    refine wpAny_take (i := 0) (v := (.string s)) rfl (by kernel_rfl) (by kernel_rfl) (by kernel_rfl) (fun _ _ _ h => h) (Or.inl ⟨by rfl, ?_⟩) ?_
                    · intro wx; go_simp
                    simp only [Act.put, List.setIfInBounds_toArray, List.set_cons_zero, List.set_cons_succ]
                    refine wpAny_take (i := 1) (v := (.int .i64 (k : Int))) rfl (by kernel_rfl) (by kernel_rfl) (by kernel_rfl) (fun _ _ _ h => h) (Or.inl ⟨by rfl, ?_⟩) ?_
                    · intro wx; go_simp
                    simp only [Act.put, List.setIfInBounds_toArray, List.set_cons_zero, List.set_cons_succ]
                    refine wpAny_take (i := 2) (v := (.int .u8 ((s[k]'hlt).toNat : Int))) rfl (by kernel_rfl) (by kernel_rfl) (by kernel_rfl) (fun _ _ _ h => h) (Or.inl ⟨by rfl, ?_⟩) ?_
                    · intro wx; go_simp
                    simp only [Act.put, List.setIfInBounds_toArray, List.set_cons_zero, List.set_cons_succ]
                    refine wpAny_take (i := 3) (v := (.string s)) rfl (by kernel_rfl) (by kernel_rfl) (by kernel_rfl) (fun _ _ _ h => h) (Or.inl ⟨by rfl, ?_⟩) ?_
                    · intro wx; go_simp
                    simp only [Act.put, List.setIfInBounds_toArray, List.set_cons_zero, List.set_cons_succ]
                    refine wpAny_take (i := 4) (v := (.int .i64 (k : Int))) rfl (by kernel_rfl) (by kernel_rfl) (by kernel_rfl) (fun _ _ _ h => h) (Or.inl ⟨by rfl, ?_⟩) ?_
                    · intro wx; go_simp
                    simp only [Act.put, List.setIfInBounds_toArray, List.set_cons_zero, List.set_cons_succ]
                    refine wpAny_take (i := 5) (v := (.int .i64 ((k : Int) + 2))) rfl (by kernel_rfl) (by kernel_rfl) (by kernel_rfl) (fun _ _ _ h => h) (Or.inl ⟨by rfl, ?_⟩) ?_
                    · intro wx; go_simp
                    simp only [Act.put, List.setIfInBounds_toArray, List.set_cons_zero, List.set_cons_succ]
                    refine wpAny_take (i := 6) (v := (.int .u8 ((s[k + 2]'h2).toNat : Int))) rfl (by kernel_rfl) (by kernel_rfl) (by kernel_rfl) (fun _ _ _ h => h) (Or.inl ⟨by rfl, ?_⟩) ?_
                    · intro wx; go_simp
                    simp only [Act.put, List.setIfInBounds_toArray, List.set_cons_zero, List.set_cons_succ]
                    refine wpAny_take (i := 7) (v := (.int .u8 ((min (s[k]'hlt).toNat (s[k + 2]'h2).toNat : Nat) : Int))) rfl (by kernel_rfl) (by kernel_rfl) (by kernel_rfl) (fun _ _ _ h => h) (Or.inl ⟨by rfl, ?_⟩) ?_
                    · intro wx; go_simp; split <;> omega
                    simp only [Act.put, List.setIfInBounds_toArray, List.set_cons_zero, List.set_cons_succ]
                    refine wpAny_take (i := 8) (v := (.string s)) rfl (by kernel_rfl) (by kernel_rfl) (by kernel_rfl) (fun _ _ _ h => h) (Or.inl ⟨by rfl, ?_⟩) ?_
                    · intro wx; go_simp
                    simp only [Act.put, List.setIfInBounds_toArray, List.set_cons_zero, List.set_cons_succ]
                    refine wpAny_take (i := 9) (v := (.int .i64 (k : Int))) rfl (by kernel_rfl) (by kernel_rfl) (by kernel_rfl) (fun _ _ _ h => h) (Or.inl ⟨by rfl, ?_⟩) ?_
                    · intro wx; go_simp
                    simp only [Act.put, List.setIfInBounds_toArray, List.set_cons_zero, List.set_cons_succ]
                    refine wpAny_take (i := 10) (v := (.int .u8 ((s[k]'hlt).toNat : Int))) rfl (by kernel_rfl) (by kernel_rfl) (by kernel_rfl) (fun _ _ _ h => h) (Or.inl ⟨by rfl, ?_⟩) ?_
                    · intro wx; go_simp
                    simp only [Act.put, List.setIfInBounds_toArray, List.set_cons_zero, List.set_cons_succ]
                    refine wpAny_take (i := 11) (v := (.string s)) rfl (by kernel_rfl) (by kernel_rfl) (by kernel_rfl) (fun _ _ _ h => h) (Or.inl ⟨by rfl, ?_⟩) ?_
                    · intro wx; go_simp
                    simp only [Act.put, List.setIfInBounds_toArray, List.set_cons_zero, List.set_cons_succ]
                    refine wpAny_take (i := 12) (v := (.int .i64 (k : Int))) rfl (by kernel_rfl) (by kernel_rfl) (by kernel_rfl) (fun _ _ _ h => h) (Or.inl ⟨by rfl, ?_⟩) ?_
                    · intro wx; go_simp
                    simp only [Act.put, List.setIfInBounds_toArray, List.set_cons_zero, List.set_cons_succ]
                    refine wpAny_take (i := 13) (v := (.int .i64 ((k : Int) + 2))) rfl (by kernel_rfl) (by kernel_rfl) (by kernel_rfl) (fun _ _ _ h => h) (Or.inl ⟨by rfl, ?_⟩) ?_
                    · intro wx; go_simp
                    simp only [Act.put, List.setIfInBounds_toArray, List.set_cons_zero, List.set_cons_succ]
                    refine wpAny_take (i := 14) (v := (.int .u8 ((s[k + 2]'h2).toNat : Int))) rfl (by kernel_rfl) (by kernel_rfl) (by kernel_rfl) (fun _ _ _ h => h) (Or.inl ⟨by rfl, ?_⟩) ?_
                    · intro wx; go_simp
                    simp only [Act.put, List.setIfInBounds_toArray, List.set_cons_zero, List.set_cons_succ]
                    refine wpAny_take (i := 15) (v := (.int .u8 ((max (s[k]'hlt).toNat (s[k + 2]'h2).toNat : Nat) : Int))) rfl (by kernel_rfl) (by kernel_rfl) (by kernel_rfl) (fun _ _ _ h => h) (Or.inl ⟨by rfl, ?_⟩) ?_
                    · intro wx; go_simp; split <;> omega
                    simp only [Act.put, List.setIfInBounds_toArray, List.set_cons_zero, List.set_cons_succ]
                    refine wpAny_ready (rs := [16]) (by kernel_rfl) (by simp) ?_
                    refine AllReady.cons rfl (fun K hK => ?_) AllReady.nil
                    go_simp
                    refine (addRange_any w.heap.size 38 (min (s[k]'hlt).toNat (s[k + 2]'h2).toNat) (max (s[k]'hlt).toNat (s[k + 2]'h2).toNat) (Pl.cov l) (Nat.lt_of_le_of_lt (Nat.min_le_left _ _) (UInt8.toNat_lt _)) (Nat.max_lt.2 ⟨UInt8.toNat_lt _, UInt8.toNat_lt _⟩) (by omega) _ hc.drew).mono ?_
                    rintro e w' ⟨rfl, hc', hb', hz'⟩
                    go_wp2_with fail
                    refine wpAny_done (by kernel_rfl) ?_ _
                    go_wp2_with fail
                    go_roundw
                    case rel => exact FIN.out 3 HW.out.2 hlt H93.out _ (cls_congr hc' (cov_two l _ _ _ _ _ HW.out.1 rfl rfl)) ((Below.refl _ _).drew.trans hb') hz'
                    case measure => simp [intOf]; omega
                  · have hb45 : (((s[k + 1]'h1).toNat : Int) == 45) = false := by rw [beq_eq_false_iff_ne]; exact h45
                    have HW := hide (way4 s k hlt h92 h1 h45)
                    clear h92 h45
                    go_wp2_with fail
                    refine (add_any w.heap.size 38 (s[k]'hlt).toNat (Pl.cov l) (UInt8.toNat_lt _) _ hc).mono ?_
                    rintro e w' ⟨rfl, hc', hb', hz'⟩
                    go_wp2_with fail
                    go_roundw
                    case rel => exact FIN.out 1 HW.out.2 hlt H93.out w' (cls_congr hc' (cov_one l _ _ HW.out.1)) hb' hz'
                    case measure => simp [intOf]; omega
                · have HW := hide (way5 s k hlt h92 h2)
                  have i2 : ¬ (k : Int) + 2 < (s.size : Int) := by omega
                  clear h92
                  go_wp2_with fail
                  refine (add_any w.heap.size 38 (s[k]'hlt).toNat (Pl.cov l) (UInt8.toNat_lt _) _ hc).mono ?_
                  rintro e w' ⟨rfl, hc', hb', hz'⟩
                  go_wp2_with fail
                  go_roundw
                  case rel => exact FIN.out 1 HW.out.2 hlt H93.out w' (cls_congr hc' (cov_one l _ _ HW.out.1)) hb' hz'
                  case measure => simp [intOf]; omega
          · go_wp2_with fail
            go_meet
            case rel =>
              have e := HA.out
              rw [Pl.all_end s k (by omega), List.append_nil] at e
              have e2 := HS.out
              rw [Pl.stop_end s k (by omega)] at e2
              exact ⟨by rw [e2], by rw [← e]; exact hc, hb, HSZ.out⟩
      case rest =>
        obtain ⟨rfl, hc, hb, hz⟩ := hcut
        have HZ := hide hz
        clear hz
        obtain ⟨k, hk⟩ : ∃ k, k = Pl.stop s j := ⟨_, rfl⟩
        have HK := hide hk
        rw [← hk]
        clear hk
        by_cases hlt : k < s.size
        · have HN : Hid ((Pl.setN s i : Int) = (k : Int) + 1) := by show (Pl.setN s i : Int) = (k : Int) + 1; rw [setN_in s i j k HJ.out HK.out hlt]; rfl
          cases nb
          · have e := setP_no s i j HJ.out HNB.out
            rw [← HP.out] at e
            have hc' : Cls wc w.heap.size 38 P := by rw [e]; exact hc
            clear hc e
            have ha := hc'.again
            have HB := hide (below_again (p := P) hb)
            have c0 := hc'.cell 0 (by omega)
            have c1 := hc'.cell 1 (by omega)
            have c2 := hc'.cell 2 (by omega)
            have c3 := hc'.cell 3 (by omega)
            have f0 := hc'.free 0
            have f1 := hc'.free 1
            have f2 := hc'.free 2
            have f3 := hc'.free 3
            have a0 := ha.cell 0 (by omega)
            have a1 := ha.cell 1 (by omega)
            have a2 := ha.cell 2 (by omega)
            have a3 := ha.cell 3 (by omega)
            unfold again at a0 a1 a2 a3
            have HA := hide (And.intro a0 (And.intro a1 (And.intro a2 a3)))
            clear a0 a1 a2 a3 ha hc'
            go_wp2_with fail
            obtain ⟨a0, a1, a2, a3⟩ := HA.out
            refine bodyPost_ret (v := .tuple #[.agg #[wv P 0, wv P 1, wv P 2, wv P 3], .int .i64 ((k : Int) + 1)]) ?_ rfl ⟨set_ret P _ _ HN.out, HB.out⟩
            simp [results, Try.results19, go_sem, a0, a1, a2, a3, wv]
          · have e := setP_yes s i j HJ.out HNB.out
            rw [← HP.out] at e
            have HE := hide e
            clear HNB HJ HK HP e
            go_wp2_with fail
            go_loopw [95] (fun t wr => ∃ m : Nat, t = .int .i64 m ∧ m ≤ 4 ∧ Cls wr w.heap.size 38 (flip (Pl.cov (Pl.all s j)) m) ∧ Below w.heap.size w wr) (fun t _ => 4 - (intOf t).toNat)
            case atStart => exact ⟨0, rfl, by omega, by rw [flip_start]; exact hc, hb⟩
            case round =>
              obtain ⟨m, rfl, hm, hcm, hbm⟩ := hrel
              by_cases hm4 : m < 4
              · have cm := hcm.cell m hm4
                have fm := hcm.free m
                have HS := hide (hcm.store (q := flip (Pl.cov (Pl.all s j)) (m + 1)) m hm4 (fun x _ h => flip_else _ m x h) _ (flip_next _ m))
                clear hcm
                go_wp2_with fail
                go_roundw
                case rel => exact ⟨m + 1, by go_num, by omega, HS.out, hbm.setCell (p := ⟨w.heap.size, m, none⟩) (Nat.le_refl _) _⟩
                case measure => simp [intOf]; omega
              · obtain rfl : m = 4 := by omega
                have hcf : Cls wr w.heap.size 38 P := by rw [HE.out]; exact cls_flip hcm
                clear hcm
                have ha := hcf.again
                have HB := hide (below_again (p := P) hbm)
                have c0 := hcf.cell 0 (by omega)
                have c1 := hcf.cell 1 (by omega)
                have c2 := hcf.cell 2 (by omega)
                have c3 := hcf.cell 3 (by omega)
                have f0 := hcf.free 0
                have f1 := hcf.free 1
                have f2 := hcf.free 2
                have f3 := hcf.free 3
                have a0 := ha.cell 0 (by omega)
                have a1 := ha.cell 1 (by omega)
                have a2 := ha.cell 2 (by omega)
                have a3 := ha.cell 3 (by omega)
                unfold again at a0 a1 a2 a3
                have HA := hide (And.intro a0 (And.intro a1 (And.intro a2 a3)))
                clear a0 a1 a2 a3 ha hcf
                go_wp2_with fail
                obtain ⟨a0, a1, a2, a3⟩ := HA.out
                refine bodyPost_ret (v := .tuple #[.agg #[wv P 0, wv P 1, wv P 2, wv P 3], .int .i64 ((k : Int) + 1)]) ?_ rfl ⟨set_ret P _ _ HN.out, HB.out⟩
                simp [results, Try.results19, go_sem, a0, a1, a2, a3, wv]
        · have HN : Hid ((Pl.setN s i : Int) = (k : Int)) := by show (Pl.setN s i : Int) = (k : Int); rw [setN_out s i j k HJ.out HK.out hlt]
          cases nb
          · have e := setP_no s i j HJ.out HNB.out
            rw [← HP.out] at e
            have hc' : Cls wc w.heap.size 38 P := by rw [e]; exact hc
            clear hc e
            have ha := hc'.again
            have HB := hide (below_again (p := P) hb)
            have c0 := hc'.cell 0 (by omega)
            have c1 := hc'.cell 1 (by omega)
            have c2 := hc'.cell 2 (by omega)
            have c3 := hc'.cell 3 (by omega)
            have f0 := hc'.free 0
            have f1 := hc'.free 1
            have f2 := hc'.free 2
            have f3 := hc'.free 3
            have a0 := ha.cell 0 (by omega)
            have a1 := ha.cell 1 (by omega)
            have a2 := ha.cell 2 (by omega)
            have a3 := ha.cell 3 (by omega)
            unfold again at a0 a1 a2 a3
            have HA := hide (And.intro a0 (And.intro a1 (And.intro a2 a3)))
            clear a0 a1 a2 a3 ha hc'
            go_wp2_with fail
            obtain ⟨a0, a1, a2, a3⟩ := HA.out
            refine bodyPost_ret (v := .tuple #[.agg #[wv P 0, wv P 1, wv P 2, wv P 3], .int .i64 (k : Int)]) ?_ rfl ⟨set_ret P _ _ HN.out, HB.out⟩
            simp [results, Try.results19, go_sem, a0, a1, a2, a3, wv]
          · have e := setP_yes s i j HJ.out HNB.out
            rw [← HP.out] at e
            have HE := hide e
            clear HNB HJ HK HP e
            go_wp2_with fail
            go_loopw [95] (fun t wr => ∃ m : Nat, t = .int .i64 m ∧ m ≤ 4 ∧ Cls wr w.heap.size 38 (flip (Pl.cov (Pl.all s j)) m) ∧ Below w.heap.size w wr) (fun t _ => 4 - (intOf t).toNat)
            case atStart => exact ⟨0, rfl, by omega, by rw [flip_start]; exact hc, hb⟩
            case round =>
              obtain ⟨m, rfl, hm, hcm, hbm⟩ := hrel
              by_cases hm4 : m < 4
              · have cm := hcm.cell m hm4
                have fm := hcm.free m
                have HS := hide (hcm.store (q := flip (Pl.cov (Pl.all s j)) (m + 1)) m hm4 (fun x _ h => flip_else _ m x h) _ (flip_next _ m))
                clear hcm
                go_wp2_with fail
                go_roundw
                case rel => exact ⟨m + 1, by go_num, by omega, HS.out, hbm.setCell (p := ⟨w.heap.size, m, none⟩) (Nat.le_refl _) _⟩
                case measure => simp [intOf]; omega
              · obtain rfl : m = 4 := by omega
                have hcf : Cls wr w.heap.size 38 P := by rw [HE.out]; exact cls_flip hcm
                clear hcm
                have ha := hcf.again
                have HB := hide (below_again (p := P) hbm)
                have c0 := hcf.cell 0 (by omega)
                have c1 := hcf.cell 1 (by omega)
                have c2 := hcf.cell 2 (by omega)
                have c3 := hcf.cell 3 (by omega)
                have f0 := hcf.free 0
                have f1 := hcf.free 1
                have f2 := hcf.free 2
                have f3 := hcf.free 3
                have a0 := ha.cell 0 (by omega)
                have a1 := ha.cell 1 (by omega)
                have a2 := ha.cell 2 (by omega)
                have a3 := ha.cell 3 (by omega)
                unfold again at a0 a1 a2 a3
                have HA := hide (And.intro a0 (And.intro a1 (And.intro a2 a3)))
                clear a0 a1 a2 a3 ha hcf
                go_wp2_with fail
                obtain ⟨a0, a1, a2, a3⟩ := HA.out
                refine bodyPost_ret (v := .tuple #[.agg #[wv P 0, wv P 1, wv P 2, wv P 3], .int .i64 (k : Int)]) ?_ rfl ⟨set_ret P _ _ HN.out, HB.out⟩
                simp [results, Try.results19, go_sem, a0, a1, a2, a3, wv]
end Go.Proofs.Qxb6603747a
