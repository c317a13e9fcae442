/-
  THE WALKS of (*Names).Add, a theorem a way.
-/
import Derived.Test.Qxb6604378aIndex
namespace Go.Proofs.Qxb6604378a
open Go.RowKit Go.Maps
set_option linter.unusedVariables false
set_option linter.unusedSimpArgs false

/-- name <= last, as the walk spells it. -/
def le (a b : ByteArray) : Bool := Op.bytesLess a.toList b.toList || a.toList == b.toList

set_option maxRecDepth 100000 in
set_option maxHeartbeats 1000000 in
/-- The set is a map already. -/
theorem add_map (B r : Nat) (S : List ByteArray) (name : ByteArray) (w : World) (c12 : w.cell? ⟨B, 12, none⟩ = some (.map (some r))) (hs : SetAt w r S) (hS : S.length ≤ 100000) (hname : name.size ≤ maxLen) (hBr : B ≠ r) :
    Calls Try.prog 10 #[.pointer (some ⟨B, 0, none⟩), .string name] w fun e w' => e = .returned (.bool (!mem S name)) ∧ SetAt w' r (S ++ [name]) ∧ w.grownBy w' (some r) := by
  obtain ⟨m, hm, hown⟩ := hs
  have hnil := fun wx => run_eql_map_nil (P := Try.prog) wx 28 9 37 (some r) Try.underlying28
  have hkey := key_of name hname
  have hgn := grown_new S name
  rw [← hgn]
  have HGN := hide hgn
  have hsl := siz_le S
  have hsl2 := siz_le (S ++ [name])
  simp at hsl2
  clear hgn
  go_enter Try.func10, Try.ntmps10
  go_wp2_with (first
    | (at_mapUpdate; refine wpList_mapUpdate_own _ rfl _ _ _ 28 rfl 9 37 law9 Try.underlying28 (unitElem (H := Unit)) r m _ rfl hown (by unfold maxLen; omega) _ _ _ rfl rfl hkey _ [] unitElem_mk ?_; intro w2 hown2 hgrow2; have g12 := hgrow2.cell c12 (by simpa using hBr))
    | (at_len; refine wpList_len_own _ rfl (.tmp 119) 28 rfl 9 37 Try.underlying28 (unitElem (H := Unit)) r m _ rfl hown ?_)
    | (at_len; refine wpList_len_own _ rfl (.tmp 130) 28 rfl 9 37 Try.underlying28 (unitElem (H := Unit)) r (m + 1) _ rfl hown2 ?_))
  go_ret
  refine ⟨?_, setAt_put hm hown2, hgrow2⟩
  have e : Maps.size ((setOf (H := Unit) (.agg []) (S.map key)).put (key name) (.agg [])) = siz (S ++ [name]) := by
    unfold siz; rw [List.map_append, List.map_singleton, setOf_snoc]
  show Ending.returned (.bool (decide (siz S < Maps.size ((setOf (H := Unit) (.agg []) (S.map key)).put (key name) (.agg []))))) = _
  rw [e]
theorem size9 (w : World) : (sizeOf 9).run Try.prog w = .ok 1 w := by kernel_rfl
/-- g.few[:n]. -/
theorem slice27 (B n : Nat) (hn : n ≤ 8) (w : World) : (Instr.sliceAt 27 (.pointer (some ⟨B, 0, none⟩)) none (some (.int .i64 (n : Int))) none).run Try.prog w = .ok (.slice (some ⟨B, 0, none⟩) n 8) w := by
  have h0 : (0 : Int) ≤ (n : Int) := by omega
  have h1 : (n : Int) ≤ ((8 : Nat) : Int) := by omega
  have hsb := run_sliceBound (P := Try.prog) w .i64 (n : Int) 8 .sliceAlen h0 h1
  simp [Instr.sliceAt, run_underlying Try.underlying27, Instr.sureAddr, Instr.sliceBounds, hsb, size9, Addr.add]

/-- The mark behind the first test. -/
def un1 (un : Bool) (n : Nat) (name last : ByteArray) : Bool := un || (decide (0 < n) && le name last)

theorem row_mark {w : World} {B : Nat} {few : Nat → ByteArray} {n : Nat} {last : ByteArray} {v : Value} {un : Bool} {mp : Value} {sz : Nat} {kv : Value} (h : RowV w B 31 15 (fld few n last v un mp sz kv)) :
    RowV (w.setCell ⟨B, 11, none⟩ (.bool true)) B 31 15 (fld few n last v true mp sz kv) :=
  h.store 11 _ (fun j hj hne => by unfold fld; simp only [hne, if_false]) (by simp [fld])

theorem grown_here {w : World} {B : Nat} (k : Nat) (v : Value) : w.grownBy (w.setCell ⟨B, k, none⟩ v) (some B) :=
  ⟨rfl, rfl, rfl, by simp [World.setCell], fun i hi hne => Below.heap_setCell _ _ _ _ (fun e => hne (by rw [e]))⟩

theorem grown_drewN (w : World) (m : Nat) (r : Option Nat) : w.grownBy (w.drewN m) r := ⟨rfl, rfl, rfl, Nat.le_refl _, fun _ _ _ => rfl⟩

/-- Is the name among the first n? -/
def inFew (few : Nat → ByteArray) (n : Nat) (name : ByteArray) : Bool := (List.range n).any (fun i => (few i).toList == name.toList)
theorem inFew_yes {few : Nat → ByteArray} {n : Nat} {name : ByteArray} (k : Nat) (hk : k < n) (h : ((few k).toList == name.toList) = true) : inFew few n name = true := by
  unfold inFew; rw [List.any_eq_true]; exact ⟨k, List.mem_range.2 hk, h⟩
theorem inFew_no {few : Nat → ByteArray} {n : Nat} {name : ByteArray} (h : ∀ k, k < n → ((few k).toList == name.toList) = false) : inFew few n name = false := by
  unfold inFew; rw [List.any_eq_false]; intro k hk; rw [h k (List.mem_range.1 hk)]; simp

def upd (few : Nat → ByteArray) (n : Nat) (name : ByteArray) : Nat → ByteArray := fun i => if i = n then name else few i

/-- What Add leaves while there are fewer than eight. -/
def FewPost (B : Nat) (few : Nat → ByteArray) (n : Nat) (last : ByteArray) (v : Value) (u : Bool) (sz : Nat) (kv : Value) (name : ByteArray) (w : World) (e : Ending) (w' : World) : Prop :=
  e = .returned (.bool (!inFew few n name)) ∧ (inFew few n name = true → RowV w' B 31 15 (fld few n last v u (.map none) sz kv)) ∧ (inFew few n name = false → RowV w' B 31 15 (fld (upd few n name) (n + 1) name v u (.map none) sz kv)) ∧
  w.grownBy w' (some B) ∧ w'.heap.size = w.heap.size

/-- The name is stored, the count raised, the last name turned. -/
theorem few_end {w w1 : World} {B : Nat} {few : Nat → ByteArray} {n : Nat} {last : ByteArray} {v : Value} {u : Bool} {sz : Nat} {kv : Value} {name : ByteArray} (hn : n < 8)
    (h : RowV w1 B 31 15 (fld few n last v u (.map none) sz kv)) :
    RowV (((w1.setCell ⟨B, n, none⟩ (.string name)).setCell ⟨B, 8, none⟩ (.int .i64 ((n : Int) + 1))).setCell ⟨B, 9, none⟩ (.string name)) B 31 15 (fld (upd few n name) (n + 1) name v u (.map none) sz kv) := by
  refine ((h.store (F' := fld (upd few n name) n last v u (.map none) sz kv) n _ (fun j hj hne => ?_) ?_).store (F' := fld (upd few n name) (n + 1) last v u (.map none) sz kv) 8 _ (fun j hj hne => ?_) ?_).store 9 _ (fun j hj hne => ?_) ?_
  · unfold fld upd; simp only [hne, if_false]
  · simp [fld, upd, hn]
  · unfold fld; simp only [hne, if_false]
  · simp [fld]
  · unfold fld; simp only [hne, if_false]
  · simp [fld]

set_option maxRecDepth 100000 in
set_option maxHeartbeats 1000000 in
theorem add_few (B : Nat) (few : Nat → ByteArray) (n : Nat) (last : ByteArray) (v : Value) (un : Bool) (sz : Nat) (kv : Value) (name : ByteArray) (w : World)
    (hrow : RowV w B 31 15 (fld few n last v un (.map none) sz kv)) (hn : n < 8) :
    Calls Try.prog 10 #[.pointer (some ⟨B, 0, none⟩), .string name] w fun e w' => FewPost B few n last v (un1 un n name last) sz kv name w e w' := by
  have hnil := fun wx => run_eql_map_nil (P := Try.prog) wx 28 9 37 none Try.underlying28
  obtain ⟨cf, c8, c9, c10, c11, c12, c13, c14⟩ := few_cells few n last v un _ sz kv hrow
  have f11 := hrow.free 11
  have HROW := hide hrow
  clear hrow cf
  go_enter Try.func10, Try.ntmps10
  go_upto_region 2 with fail
  go_cut [25] (fun x wx => x = .bool (decide (0 < n) && le name last) ∧ w = wx)
  case first =>
    by_cases h0 : 0 < n
    · have i0 : (0 : Int) < (n : Int) := by omega
      go_wp2_with fail
      go_meet
      case rel => exact ⟨by simp [h0, le], rfl⟩
    · have i0 : ¬ (0 : Int) < (n : Int) := by omega
      go_wp2_with fail
      go_meet
      case rel => exact ⟨by simp [h0], rfl⟩
  case rest =>
    obtain ⟨rfl, rfl⟩ := hcut
    obtain ⟨cc, hcc⟩ : ∃ cc, cc = (decide (0 < n) && le name last) := ⟨_, rfl⟩
    rw [← hcc]
    have hun : un1 un n name last = (un || cc) := by rw [hcc]; rfl
    have HUN := hide hun
    clear hun hcc
    go_upto_if 25 with fail
    go_cut [26] (fun _ wx => RowV wx B 31 15 (fld few n last v (un1 un n name last) (.map none) sz kv) ∧ w.grownBy wx (some B) ∧ wx.heap.size = w.heap.size)
    case first =>
      cases cc
      · have e : un1 un n name last = un := by rw [HUN.out]; simp
        have HE := hide e
        clear e
        go_wp2_with fail
        go_meet
        case rel => exact ⟨by rw [HE.out]; exact HROW.out, grown_refl _ _, rfl⟩
      · have e : un1 un n name last = true := by rw [HUN.out]; simp
        have HE := hide e
        clear e
        go_wp2_with fail
        go_meet
        case rel => exact ⟨by rw [HE.out]; exact row_mark HROW.out, grown_here _ _, by simp [World.setCell]⟩
    case rest =>
      obtain ⟨hr1, hg1, hz1⟩ := hcut
      obtain ⟨w1, rfl⟩ : ∃ w1, w1 = wc := ⟨_, rfl⟩
      clear c8 c9 c10 c11 c12 c13 c14 f11 HROW HUN
      obtain ⟨cf, c8, c9, c10, c11, c12, c13, c14⟩ := few_cells few n last v _ _ sz kv hr1
      have i1 : (n : Int) < 8 := by omega
      have hsl := slice27 B n (by omega)
      have HR1 := hide hr1
      have HG1 := hide hg1
      have HZ1 := hide hz1
      have HCF := hide cf
      have fn := hr1.free n
      have f8 := hr1.free 8
      have f9 := hr1.free 9
      have hcn := cf n hn
      have HEND := hide (few_end (w := w) (name := name) hn hr1)
      clear hr1 hg1 hz1 cf c10 c11 c13 c14
      go_wp2_with fail
      go_quiet (fail)
      go_wp2_with fail
      go_loop [46] (fun t => ∃ k : Nat, t = .int .i64 k ∧ k ≤ n ∧ Hid (∀ i, i < k → ((few i).toList == name.toList) = false)) (fun t => n - (intOf t).toNat)
      case atStart => exact ⟨0, rfl, Nat.zero_le _, fun i hi => by omega⟩
      case round =>
        obtain ⟨k, rfl, hk, HJ⟩ := hrel
        by_cases hlt : k < n
        · have ck := HCF.out k (by omega)
          have i2 : (k : Int) < (n : Int) := by omega
          by_cases he : ((few k).toList == name.toList) = true
          · go_wp2_with fail
            go_ret
            have hy := inFew_yes k hlt he
            exact ⟨by rw [hy]; rfl, fun _ => HR1.out, (fun h => by rw [hy] at h; cases h), ⟨HG1.out.os, HG1.out.tape, HG1.out.output, HG1.out.size, HG1.out.block⟩, HZ1.out⟩
          · have he' : ((few k).toList == name.toList) = false := by simpa using he
            clear he
            have HE := hide he'
            go_wp2_with fail
            go_round
            case rel => exact ⟨k + 1, by go_num, by omega, fun i hi => by
              by_cases e : i = k
              · rw [e]; exact HE.out
              · exact HJ.out i (by omega)⟩
            case measure => simp [intOf]; omega
        · obtain rfl : k = n := by omega
          go_wp2_with fail
          go_region
          all_goals go_wp2_with fail
          all_goals
            go_ret
            have hy := inFew_no (fun i hi => HJ.out i hi)
            refine ⟨by rw [hy]; rfl, (fun h => by rw [hy] at h; cases h), fun _ => HEND.out, ?_, ?_⟩
            · exact grown_trans HG1.out (grown_trans (grown_trans (grown_trans (grown_drewN _ _ _) (grown_here _ _)) (grown_here _ _)) (grown_here _ _))
            · simp [World.setCell, HZ1.out]
end Go.Proofs.Qxb6604378a
