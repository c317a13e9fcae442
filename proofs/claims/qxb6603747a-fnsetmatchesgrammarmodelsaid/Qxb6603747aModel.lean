/-
  THE WALK of zzGlobB1ModelSet: the grammar's set, by a table of differences.
-/
import Derived.Test.Qxb6603747aZz
import Derived.Test.Qxb6603747aCover
import Derived.Deep.MidRow
namespace Go.Proofs.Qxb6603747a
open Go.RowKit
set_option linter.unusedSimpArgs false

def Z27 : Array Value := Array.replicate 256 (.bool false)
def Z41 : Array Value := Array.replicate 257 (.int .i64 0)
theorem zero27 (w : World) : (zeroValue 27).run Try.prog w = .ok (.agg Z27) w := by kernel_rfl
theorem zero41 (w : World) : (zeroValue 41).run Try.prog w = .ok (.agg Z41) w := by kernel_rfl

/-- Block g holds n cells, the j-th is F j. -/
def RowV (w : World) (g T n : Nat) (F : Nat → Value) : Prop := ∃ cs : Array Value, w.heap[g]? = some (.cells cs T (0, 0)) ∧ cs.size = n ∧ ∀ j, j < n → cs[j]? = some (F j)

theorem RowV.lt {w : World} {g T n : Nat} {F : Nat → Value} (h : RowV w g T n F) : g < w.heap.size := by
  obtain ⟨cs, h1, _⟩ := h
  exact lt_of_block h1
theorem RowV.cell {w : World} {g T n : Nat} {F : Nat → Value} (h : RowV w g T n F) (j : Nat) (hj : j < n) : w.cell? ⟨g, j, none⟩ = some (F j) := by
  obtain ⟨cs, h1, _, h3⟩ := h
  simp [World.cell?, h1, h3 j hj]
theorem RowV.free {w : World} {g T n : Nat} {F : Nat → Value} (h : RowV w g T n F) (j : Nat) : w.frozen? ⟨g, j, none⟩ = false := by
  obtain ⟨cs, h1, _⟩ := h
  simp [World.frozen?, h1]
theorem RowV.of_block {w w' : World} {g T n : Nat} {F : Nat → Value} (h : RowV w g T n F) (e : w'.heap[g]? = w.heap[g]?) : RowV w' g T n F := by
  obtain ⟨cs, h1, h2, h3⟩ := h
  exact ⟨cs, e.trans h1, h2, h3⟩
theorem RowV.congr {w : World} {g T n : Nat} {F F' : Nat → Value} (h : RowV w g T n F) (e : ∀ j, j < n → F j = F' j) : RowV w g T n F' := by
  obtain ⟨cs, h1, h2, h3⟩ := h
  exact ⟨cs, h1, h2, fun j hj => by rw [h3 j hj, e j hj]⟩
theorem RowV.store {w : World} {g T n : Nat} {F F' : Nat → Value} (h : RowV w g T n F) (k : Nat) (v : Value) (ho : ∀ j, j < n → j ≠ k → F' j = F j) (hv : v = F' k) : RowV (w.setCell ⟨g, k, none⟩ v) g T n F' := by
  obtain ⟨cs, h1, h2, h3⟩ := h
  refine ⟨cs.setIfInBounds k v, heap_setCell_here h1 k _, by simp [h2], fun j hj => ?_⟩
  rw [Array.getElem?_setIfInBounds]
  by_cases e : k = j
  · subst e
    simp [h2, hj, hv]
  · rw [if_neg e, h3 j hj, ho j hj (Ne.symm e)]
theorem RowV.other {w : World} {g T n : Nat} {F : Nat → Value} (h : RowV w g T n F) {a : Addr} (ha : g ≠ a.block) (v : Value) : RowV (w.setCell a v) g T n F :=
  h.of_block (Below.heap_setCell w a v g ha)

/-- The world as the two tables are laid. -/
def W0 (w : World) : World := (w.alloc (.cells Z27 27)).alloc (.cells Z41 41)

theorem w0_m (w : World) : RowV (W0 w) w.heap.size 27 256 (fun _ => .bool false) :=
  ⟨Z27, heap_alloc2_old w _ _, by simp [Z27], fun j hj => by simp [Z27, hj]⟩
theorem w0_c (w : World) : RowV (W0 w) (w.heap.size + 1) 41 257 (fun j => .int .i64 (Pl.dif [] j)) :=
  ⟨Z41, heap_alloc2_new w _ _, by simp [Z41], fun j hj => by simp [Z41, hj, Pl.dif]⟩
theorem w0_below (w : World) : Below w.heap.size w (W0 w) := ((Below.refl _ _).alloc (Nat.le_refl _) _).alloc (by simp) _

/-- 256 bools. -/
def Bools (cs : Array Value) (P : Nat → Bool) : Prop := cs.size = 256 ∧ ∀ v, v < 256 → cs[v]? = some (.bool (P v))
/-- What the model answers. -/
def MPost (P : Nat → Bool) (n : Nat) (w : World) (e : Ending) (w' : World) : Prop := ∃ cs : Array Value, e = .returned (.tuple #[.agg cs, .int .i64 (n : Int)]) ∧ Bools cs P ∧ Below w.heap.size w w'

theorem cover_next {w : World} {g : Nat} {l : List (Nat × Nat)} (h : RowV w g 41 257 (fun j => .int .i64 (Pl.dif l j))) (x : Nat × Nat) (a b : Nat) (hx : x = (a, b)) (hab : a ≤ b) :
    RowV ((w.setCell ⟨g, a, none⟩ (.int .i64 (Pl.dif l a + 1))).setCell ⟨g, b + 1, none⟩ (.int .i64 (Pl.dif l (b + 1) - 1))) g 41 257 (fun j => .int .i64 (Pl.dif (l ++ [x]) j)) := by
  subst hx
  refine (h.store (F' := fun j => .int .i64 (if j = a then Pl.dif l j + 1 else Pl.dif l j)) a _ (fun j _ hj => by simp [hj]) (by simp)).store (b + 1) _ (fun j _ hj => ?_) ?_
  · simp only [Pl.dif_snoc, Pl.one]
    by_cases e : j = a
    · have e1 : a = j := e.symm
      have e2 : ¬ b + 1 = j := by omega
      simp [e]; omega
    · have e1 : ¬ a = j := by omega
      have e2 : ¬ b + 1 = j := by omega
      simp [e, e1, e2]
  · simp only [Pl.dif_snoc, Pl.one]
    have e1 : ¬ a = b + 1 := by omega
    simp [e1]; omega

/-- The tables behind one item. -/
theorem tables_next {w wr : World} {l : List (Nat × Nat)} (hm : RowV wr w.heap.size 27 256 (fun _ => .bool false)) (hc : RowV wr (w.heap.size + 1) 41 257 (fun j => .int .i64 (Pl.dif l j))) (hb : Below w.heap.size w wr) (x : Nat × Nat) (a b : Nat) (hx : x = (a, b)) (hab : a ≤ b) :
    RowV ((wr.setCell ⟨w.heap.size + 1, a, none⟩ (.int .i64 (Pl.dif l a + 1))).setCell ⟨w.heap.size + 1, b + 1, none⟩ (.int .i64 (Pl.dif l (b + 1) - 1))) w.heap.size 27 256 (fun _ => .bool false) ∧
    RowV ((wr.setCell ⟨w.heap.size + 1, a, none⟩ (.int .i64 (Pl.dif l a + 1))).setCell ⟨w.heap.size + 1, b + 1, none⟩ (.int .i64 (Pl.dif l (b + 1) - 1))) (w.heap.size + 1) 41 257 (fun j => .int .i64 (Pl.dif (l ++ [x]) j)) ∧
    Below w.heap.size w ((wr.setCell ⟨w.heap.size + 1, a, none⟩ (.int .i64 (Pl.dif l a + 1))).setCell ⟨w.heap.size + 1, b + 1, none⟩ (.int .i64 (Pl.dif l (b + 1) - 1))) :=
  ⟨(hm.other (a := ⟨w.heap.size + 1, a, none⟩) (by simp) _).other (a := ⟨w.heap.size + 1, b + 1, none⟩) (by simp) _, cover_next hc x a b hx hab,
    (hb.setCell (p := ⟨w.heap.size + 1, a, none⟩) (by simp) _).setCell (p := ⟨w.heap.size + 1, b + 1, none⟩) (by simp) _⟩

/-- The answers below k are in. -/
def mid (P : Nat → Bool) (k : Nat) : Nat → Bool := fun x => if x < k then P x else false
theorem mid_zero (P : Nat → Bool) (x : Nat) : mid P 0 x = false := by simp [mid]
theorem mid_else (P : Nat → Bool) (k x : Nat) (h : x ≠ k) : mid P (k + 1) x = mid P k x := by
  simp only [mid]; split <;> split <;> first | rfl | omega
theorem mid_next (P : Nat → Bool) (k : Nat) : mid P (k + 1) k = P k := by simp [mid]
theorem mid_end (P : Nat → Bool) (x : Nat) (h : x < 256) : mid P 256 x = P x := by simp [mid, h]

theorem model_bit (L : List (Nat × Nat)) (h : ∀ x ∈ L, x.1 ≤ x.2) (nb : Bool) (k : Nat) : (!(decide (0 < Pl.sum L k + Pl.dif L k) == nb)) = (Pl.cov L k != nb) := by
  have e : Pl.sum L k + Pl.dif L k = Pl.cnt L k := Pl.sum_cnt L h k
  rw [e, Pl.cnt_cov]
  rfl

theorem info27 : (Try.prog.info? 27).map (·.size) = some 256 := by kernel_rfl

theorem below_setCells {B : Nat} {w : World} (b : Nat) (hB : B ≤ b) : ∀ (vs : List Value) (o : Nat) (wx : World), Below B w wx → Below B w (wx.setCells b o vs)
  | [], _, _, h => h
  | v :: vs, o, _, h => below_setCells b hB vs (o + 1) _ (h.setCell (p := ⟨b, o, none⟩) hB v)

/-- What is read out of the named result. -/
theorem results9 (tmps : Array Value) (w : World) (g : Nat) (cs : List Value) (v : Value) (h4 : tmps.getD 4 undef = .pointer (some ⟨g, 0, none⟩)) (h5 : tmps.getD 5 undef = v) (hr : w.rangeAt g 0 cs) (hl : cs.length = 256) :
    (results Try.f9 tmps).run Try.prog w = .ok (.tuple #[.agg cs.toArray, v]) w := by
  have h4' : tmps[4]?.getD undef = .pointer (some ⟨g, 0, none⟩) := by simpa using h4
  have h5' : tmps[5]?.getD undef = v := by simpa using h5
  have hload := run_loadVar_mid (P := Try.prog) w g 0 27 cs _ hr Try.underlying27 rfl (by rw [hl]; exact info27)
  simp [results, Try.results9, h4', h5', asAddr, hload]

set_option maxRecDepth 100000 in
set_option maxHeartbeats 2000000 in
theorem model_any (s : ByteArray) (i : Nat) (hs : s.size ≤ 1048576) (hi : i ≤ s.size) (w : World) :
    Calls Try.prog 9 #[.string s, .int .i64 (i : Int)] w fun e w' => MPost (Pl.setP s i) (Pl.setN s i) w e w' := by
  obtain ⟨nb, hnb⟩ : ∃ b, b = Pl.neg s i := ⟨_, rfl⟩
  obtain ⟨j, hj⟩ : ∃ j, j = Pl.beg s i := ⟨_, rfl⟩
  obtain ⟨nx, hnx⟩ : ∃ n, n = Pl.setN s i := ⟨_, rfl⟩
  obtain ⟨P, hP⟩ : ∃ P, P = Pl.setP s i := ⟨_, rfl⟩
  have HNB := hide hnb
  have HJ := hide hj
  have HNX := hide hnx
  have HP := hide hP
  have hjl : j ≤ s.size := by rw [hj]; exact (Pl.beg_le s i hi).2
  rw [← hnx, ← hP]
  clear hnb hj hnx hP
  have z1 := zero27
  have z2 := zero41
  go_enter Try.func9, Try.ntmps9
  go_upto_region 3 with fail
  clear z1 z2
  go_cut [23] (fun v wx => v = .bool nb ∧ wx = W0 w)
  case first =>
    by_cases h : i < s.size
    · have e := neg_in s i h
      rw [← HNB.out] at e
      have HE := hide e
      clear e
      go_wp2_with fail
      go_meet
      case rel => exact ⟨by rw [HE.out], rfl⟩
    · have e := neg_out s i h
      rw [← HNB.out] at e
      have HE := hide e
      clear e
      go_wp2_with fail
      go_meet
      case rel => exact ⟨by rw [HE.out], rfl⟩
  case rest =>
    obtain ⟨rfl, rfl⟩ := hcut
    go_upto_if 23 with fail
    go_cut [1, 7] (fun a b wx => a = .int .i64 (j : Nat) ∧ b = .bool nb ∧ wx = W0 w)
    case first =>
      have e := beg_neg s i
      rw [← HNB.out, ← HJ.out] at e
      cases nb
      · have HE : Hid (j = i) := by show j = i; simpa using e
        clear e
        go_wp2_with fail
        go_meet
        case rel => exact ⟨by rw [HE.out], rfl, rfl⟩
      · have HE : Hid (j = i + 1) := by show j = i + 1; simpa using e
        clear e
        go_wp2_with fail
        go_meet
        case rel => exact ⟨by rw [HE.out]; go_num, rfl, rfl⟩
    case rest =>
      obtain ⟨rfl, rfl, rfl⟩ := hcut
      go_upto_block 0 with fail
      go_cut [1] (fun v wx => v = .int .i64 (nx : Nat) ∧ RowV wx w.heap.size 27 256 (fun _ => .bool false) ∧ RowV wx (w.heap.size + 1) 41 257 (fun x => .int .i64 (Pl.dif (Pl.all s j) x)) ∧ Below w.heap.size w wx)
      case first =>
        go_wp2_with fail
        go_loopw [1] (fun t wr => ∃ k : Nat, t = .int .i64 k ∧ k ≤ s.size ∧ ∃ l : List (Nat × Nat), l.length ≤ k ∧ RowV wr w.heap.size 27 256 (fun _ => .bool false) ∧ RowV wr (w.heap.size + 1) 41 257 (fun x => .int .i64 (Pl.dif l x)) ∧ Below w.heap.size w wr ∧ Hid (l ++ Pl.all s k = Pl.all s j) ∧ Hid (Pl.stop s k = Pl.stop s j)) (fun t _ => s.size - (intOf t).toNat)
        case atStart => exact ⟨j, rfl, hjl, [], Nat.zero_le _, w0_m w, w0_c w, w0_below w, rfl, rfl⟩
        case round =>
          obtain ⟨k, rfl, hk, l, hll, hm, hc, hb, HA, HS⟩ := hrel
          have fin : ∀ d, Pl.wid s k = d → k < s.size → Pl.bt s k ≠ 93 → ∀ w', (RowV w' w.heap.size 27 256 (fun _ => .bool false) ∧ RowV w' (w.heap.size + 1) 41 257 (fun x => .int .i64 (Pl.dif (l ++ [Pl.itm s k]) x)) ∧ Below w.heap.size w w') →
              ∃ k' : Nat, Value.int .i64 ((k : Int) + d) = .int .i64 k' ∧ k' ≤ s.size ∧ ∃ l' : List (Nat × Nat), l'.length ≤ k' ∧ RowV w' w.heap.size 27 256 (fun _ => .bool false) ∧ RowV w' (w.heap.size + 1) 41 257 (fun x => .int .i64 (Pl.dif l' x)) ∧ Below w.heap.size w w' ∧ Hid (l' ++ Pl.all s k' = Pl.all s j) ∧ Hid (Pl.stop s k' = Pl.stop s j) := by
            intro d hd hlt h93 w' hh
            have hwp := Pl.wid_pos s k
            obtain ⟨r1, r2, r3⟩ := rel_next s k d l _ _ hlt h93 HA.out HS.out hd
            exact ⟨k + d, by go_num, r3, _, by simp; omega, hh.1, hh.2.1, hh.2.2, r1, r2⟩
          have FIN := hide fin
          clear fin
          by_cases hlt : k < s.size
          · have i0 : (k : Int) < (s.size : Int) := by omega
            by_cases h93 : ((s[k]'hlt).toNat : Int) = 93
            · have hb93 : (((s[k]'hlt).toNat : Int) == 93) = true := by rw [beq_iff_eq]; exact h93
              have H93 := hide h93
              clear h93 FIN
              go_wp2_with fail
              go_meet
              case rel =>
                have h : Pl.bt s k = 93 := by rw [← Pl.bt_eq s k hlt]; have := H93.out; omega
                have e := HA.out
                rw [Pl.all_end s k (by omega), List.append_nil] at e
                have e2 := HS.out
                rw [Pl.stop_end s k (by omega)] at e2
                have e3 := setN_in s i j k HJ.out e2 hlt
                rw [← HNX.out] at e3
                exact ⟨by rw [e3]; go_num, hm, by rw [← e]; exact hc, hb⟩
            · have hb93 : (((s[k]'hlt).toNat : Int) == 93) = false := by rw [beq_eq_false_iff_ne]; exact h93
              have H93 := hide (bt93 s k hlt h93)
              clear h93
              by_cases h92 : ((s[k]'hlt).toNat : Int) = 92
              · have hb92 : (((s[k]'hlt).toNat : Int) == 92) = true := by rw [beq_iff_eq]; exact h92
                by_cases h1 : k + 1 < s.size
                · have HW := hide (way1 s k hlt h92 h1)
                  have i1 : (k : Int) + 1 < (s.size : Int) := by omega
                  clear h92
                  have la : (s[k + 1]'h1).toNat < 256 := UInt8.toNat_lt _
                  have lb : (s[k + 1]'h1).toNat < 256 := UInt8.toNat_lt _
                  have ca := hc.cell ((s[k + 1]'h1).toNat) (by omega)
                  have cb := hc.cell ((s[k + 1]'h1).toNat + 1) (by omega)
                  have fa := hc.free ((s[k + 1]'h1).toNat)
                  have fb := hc.free ((s[k + 1]'h1).toNat + 1)
                  have da := Pl.dif_bd l ((s[k + 1]'h1).toNat)
                  have db := Pl.dif_bd l ((s[k + 1]'h1).toNat + 1)
                  have HN := hide (FIN.out 2 HW.out.2 hlt H93.out _ (tables_next hm hc hb (Pl.itm s k) ((s[k + 1]'h1).toNat) ((s[k + 1]'h1).toNat) HW.out.1 (Nat.le_refl _)))
                  clear hm hc FIN
                  go_wp2_with fail
                  go_roundw
                  case rel => exact HN.out
                  case measure => simp [intOf]; omega
                · have HW := hide (way2 s k hlt h1)
                  have i1 : ¬ (k : Int) + 1 < (s.size : Int) := by omega
                  have i2 : ¬ (k : Int) + 2 < (s.size : Int) := by omega
                  clear h92
                  have la : (s[k]'hlt).toNat < 256 := UInt8.toNat_lt _
                  have lb : (s[k]'hlt).toNat < 256 := UInt8.toNat_lt _
                  have ca := hc.cell ((s[k]'hlt).toNat) (by omega)
                  have cb := hc.cell ((s[k]'hlt).toNat + 1) (by omega)
                  have fa := hc.free ((s[k]'hlt).toNat)
                  have fb := hc.free ((s[k]'hlt).toNat + 1)
                  have da := Pl.dif_bd l ((s[k]'hlt).toNat)
                  have db := Pl.dif_bd l ((s[k]'hlt).toNat + 1)
                  have HN := hide (FIN.out 1 HW.out.2 hlt H93.out _ (tables_next hm hc hb (Pl.itm s k) ((s[k]'hlt).toNat) ((s[k]'hlt).toNat) HW.out.1 (Nat.le_refl _)))
                  clear hm hc FIN
                  go_wp2_with fail
                  go_roundw
                  case rel => exact HN.out
                  case measure => simp [intOf]; omega
              · have hb92 : (((s[k]'hlt).toNat : Int) == 92) = false := by rw [beq_eq_false_iff_ne]; exact h92
                by_cases h2 : k + 2 < s.size
                · have h1 : k + 1 < s.size := by omega
                  have i1 : (k : Int) + 1 < (s.size : Int) := by omega
                  have i2 : (k : Int) + 2 < (s.size : Int) := by omega
                  by_cases h45 : ((s[k + 1]'h1).toNat : Int) = 45
                  · have hb45 : (((s[k + 1]'h1).toNat : Int) == 45) = true := by rw [beq_iff_eq]; exact h45
                    have HW := hide (way3 s k hlt h92 h1 h2 h45)
                    clear h92 h45
                    by_cases hsw : (s[k + 2]'h2).toNat < (s[k]'hlt).toNat
                    · have HX := hide (show Pl.itm s k = ((s[k + 2]'h2).toNat, (s[k]'hlt).toNat) by rw [HW.out.1, Nat.min_eq_right (by omega), Nat.max_eq_left (by omega)])
                      have la : (s[k + 2]'h2).toNat < 256 := UInt8.toNat_lt _
                      have lb : (s[k]'hlt).toNat < 256 := UInt8.toNat_lt _
                      have ca := hc.cell ((s[k + 2]'h2).toNat) (by omega)
                      have cb := hc.cell ((s[k]'hlt).toNat + 1) (by omega)
                      have fa := hc.free ((s[k + 2]'h2).toNat)
                      have fb := hc.free ((s[k]'hlt).toNat + 1)
                      have da := Pl.dif_bd l ((s[k + 2]'h2).toNat)
                      have db := Pl.dif_bd l ((s[k]'hlt).toNat + 1)
                      have HN := hide (FIN.out 3 HW.out.2 hlt H93.out _ (tables_next hm hc hb (Pl.itm s k) ((s[k + 2]'h2).toNat) ((s[k]'hlt).toNat) HX.out (by omega)))
                      clear hm hc FIN
                      go_wp2_with fail
                      go_roundw
                      case rel => exact HN.out
                      case measure => simp [intOf]; omega
                    · have HX := hide (show Pl.itm s k = ((s[k]'hlt).toNat, (s[k + 2]'h2).toNat) by rw [HW.out.1, Nat.min_eq_left (by omega), Nat.max_eq_right (by omega)])
                      have la : (s[k]'hlt).toNat < 256 := UInt8.toNat_lt _
                      have lb : (s[k + 2]'h2).toNat < 256 := UInt8.toNat_lt _
                      have ca := hc.cell ((s[k]'hlt).toNat) (by omega)
                      have cb := hc.cell ((s[k + 2]'h2).toNat + 1) (by omega)
                      have fa := hc.free ((s[k]'hlt).toNat)
                      have fb := hc.free ((s[k + 2]'h2).toNat + 1)
                      have da := Pl.dif_bd l ((s[k]'hlt).toNat)
                      have db := Pl.dif_bd l ((s[k + 2]'h2).toNat + 1)
                      have HN := hide (FIN.out 3 HW.out.2 hlt H93.out _ (tables_next hm hc hb (Pl.itm s k) ((s[k]'hlt).toNat) ((s[k + 2]'h2).toNat) HX.out (by omega)))
                      clear hm hc FIN
                      go_wp2_with fail
                      go_roundw
                      case rel => exact HN.out
                      case measure => simp [intOf]; omega
                  · have hb45 : (((s[k + 1]'h1).toNat : Int) == 45) = false := by rw [beq_eq_false_iff_ne]; exact h45
                    have HW := hide (way4 s k hlt h92 h1 h45)
                    clear h92 h45
                    have la : (s[k]'hlt).toNat < 256 := UInt8.toNat_lt _
                    have lb : (s[k]'hlt).toNat < 256 := UInt8.toNat_lt _
                    have ca := hc.cell ((s[k]'hlt).toNat) (by omega)
                    have cb := hc.cell ((s[k]'hlt).toNat + 1) (by omega)
                    have fa := hc.free ((s[k]'hlt).toNat)
                    have fb := hc.free ((s[k]'hlt).toNat + 1)
                    have da := Pl.dif_bd l ((s[k]'hlt).toNat)
                    have db := Pl.dif_bd l ((s[k]'hlt).toNat + 1)
                    have HN := hide (FIN.out 1 HW.out.2 hlt H93.out _ (tables_next hm hc hb (Pl.itm s k) ((s[k]'hlt).toNat) ((s[k]'hlt).toNat) HW.out.1 (Nat.le_refl _)))
                    clear hm hc FIN
                    go_wp2_with fail
                    go_roundw
                    case rel => exact HN.out
                    case measure => simp [intOf]; omega
                · have HW := hide (way5 s k hlt h92 h2)
                  have i2 : ¬ (k : Int) + 2 < (s.size : Int) := by omega
                  clear h92
                  have la : (s[k]'hlt).toNat < 256 := UInt8.toNat_lt _
                  have lb : (s[k]'hlt).toNat < 256 := UInt8.toNat_lt _
                  have ca := hc.cell ((s[k]'hlt).toNat) (by omega)
                  have cb := hc.cell ((s[k]'hlt).toNat + 1) (by omega)
                  have fa := hc.free ((s[k]'hlt).toNat)
                  have fb := hc.free ((s[k]'hlt).toNat + 1)
                  have da := Pl.dif_bd l ((s[k]'hlt).toNat)
                  have db := Pl.dif_bd l ((s[k]'hlt).toNat + 1)
                  have HN := hide (FIN.out 1 HW.out.2 hlt H93.out _ (tables_next hm hc hb (Pl.itm s k) ((s[k]'hlt).toNat) ((s[k]'hlt).toNat) HW.out.1 (Nat.le_refl _)))
                  clear hm hc FIN
                  go_wp2_with fail
                  go_roundw
                  case rel => exact HN.out
                  case measure => simp [intOf]; omega
          · clear FIN
            go_wp2_with fail
            go_meet
            case rel =>
              have e := HA.out
              rw [Pl.all_end s k (by omega), List.append_nil] at e
              have e2 := HS.out
              rw [Pl.stop_end s k (by omega)] at e2
              have e3 := setN_out s i j k HJ.out e2 hlt
              rw [← HNX.out] at e3
              exact ⟨by rw [e3], hm, by rw [← e]; exact hc, hb⟩
      case rest =>
        obtain ⟨rfl, hm, hc, hb⟩ := hcut
        have hok := Pl.all_ok s (s.size - j) j (Nat.le_refl _)
        have hP : ∀ x, P x = (Pl.cov (Pl.all s j) x != nb) := by
          intro x; rw [HP.out, HJ.out, HNB.out]; rfl
        obtain ⟨L, hL⟩ : ∃ L, L = Pl.all s j := ⟨_, rfl⟩
        rw [← hL] at hok hP hc
        have hll : L.length ≤ 1048576 := by omega
        have HOK := hide hok.1
        have HPP := hide hP
        clear hL hok hP HP HNX HJ HNB
        go_wp2_with fail
        go_loopw [12, 13] (fun rn t wr => ∃ k : Nat, t = .int .i64 k ∧ k ≤ 256 ∧ rn = .int .i64 (Pl.sum L k) ∧ RowV wr w.heap.size 27 256 (fun x => .bool (mid P k x)) ∧ RowV wr (w.heap.size + 1) 41 257 (fun x => .int .i64 (Pl.dif L x)) ∧ Below w.heap.size w wr) (fun _ t _ => 256 - (intOf t).toNat)
        case atStart => exact ⟨0, rfl, Nat.zero_le _, rfl, hm.congr (fun x _ => by rw [mid_zero]), hc, hb⟩
        case round =>
          obtain ⟨k, rfl, hk, rfl, hmr, hcr, hbr⟩ := hrel
          by_cases hlt : k < 256
          · have c1 := hcr.cell k (by omega)
            have c2 := hmr.cell k hlt
            have f2 := hmr.free k
            have b1 := Pl.sum_bd L HOK.out k
            have b2 := Pl.dif_bd L k
            have HM := hide hmr
            have HC := hide hcr
            clear hmr hcr hm hc hb
            go_wp2_with fail
            go_roundw
            case rel =>
              refine ⟨k + 1, by go_num, by omega, rfl, ?_, HC.out.other (a := ⟨w.heap.size, k, none⟩) (by simp) _, hbr.setCell (p := ⟨w.heap.size, k, none⟩) (Nat.le_refl _) _⟩
              exact HM.out.store k _ (fun x _ hx => by rw [mid_else P k x hx]) (by rw [mid_next, HPP.out, model_bit L HOK.out])
            case measure => simp [intOf]; omega
          · obtain rfl : k = 256 := by omega
            obtain ⟨cs, hg, hsz, hcs⟩ := hmr.congr (F' := fun x => .bool (P x)) (fun x hx => by rw [mid_end P x hx])
            clear hcr hm hc hb
            go_upto_region 31 with fail
            have hth : wr.there w.heap.size 0 cs.size := by
              intro x hx
              rw [Nat.zero_add, cell_of_row wr _ x cs 27 _ hg, frozen_of_row wr _ x cs 27 hg]
              simp [hx]
            have hone : cs.all (·.oneCell') = true := by
              rw [Array.all_eq_true]
              intro x hx
              have := hcs x (by omega)
              rw [Array.getElem?_eq_getElem hx] at this
              rw [Option.some.inj this]
              rfl
            have HRA := hide (World.rangeAt_setCells_same wr w.heap.size 0 cs.toList (by simpa using hth))
            have HBB := hide (below_setCells (w := w) w.heap.size (Nat.le_refl _) cs.toList 0 wr hbr)
            go_wp2_with (first | refine wpList_load_row rfl 27 _ rfl w.heap.size rfl 27 cs _ _ hg Try.underlying27 rfl (by rw [hsz]; exact info27) ?_ | refine wpList_store_mid rfl 27 _ _ rfl w.heap.size 0 cs rfl rfl hth (by rw [hsz]; exact info27) hone ?_)
            refine bodyPost_ret (v := .tuple #[.agg cs, .int .i64 (nx : Int)]) ?_ rfl ⟨cs, rfl, ⟨hsz, hcs⟩, HBB.out⟩
            have hres := fun tmps h4 h5 => results9 tmps (wr.setCells w.heap.size 0 cs.toList) w.heap.size cs.toList (.int .i64 (nx : Int)) h4 h5 HRA.out (by simpa using hsz)
            rw [Array.toArray_toList] at hres
            exact hres _ rfl rfl
end Go.Proofs.Qxb6603747a
