/-
  THE WALKS of (*Names).Add while the names come sorted: kept by the caller; kept by the set itself.
-/
import Derived.Test.Qxb6604378aAddb
namespace Go.Proofs.Qxb6604378a
open Go.RowKit Go.Maps
set_option linter.unusedVariables false
set_option linter.unusedSimpArgs false

theorem row_counts {w : World} {B : Nat} {few : Nat → ByteArray} {n : Nat} {last : ByteArray} {v : Value} {u : Bool} {mp : Value} {sz : Nat} {kv : Value} {name : ByteArray}
    (h : RowV w B 31 15 (fld few n last v u mp sz kv)) : RowV ((w.setCell ⟨B, 8, none⟩ (.int .i64 ((n : Int) + 1))).setCell ⟨B, 9, none⟩ (.string name)) B 31 15 (fld few (n + 1) name v u mp sz kv) := by
  refine (h.store (F' := fld few (n + 1) last v u mp sz kv) 8 _ (fun j hj hne => ?_) ?_).store 9 _ (fun j hj hne => ?_) ?_
  · unfold fld; simp only [hne, if_false]
  · simp [fld]
  · unfold fld; simp only [hne, if_false]
  · simp [fld]
theorem row_after {w : World} {B : Nat} {few : Nat → ByteArray} {n : Nat} {last : ByteArray} {v : Value} {u : Bool} {mp : Value} {sz : Nat} {kv : Value} (v' : Value)
    (h : RowV w B 31 15 (fld few n last v u mp sz kv)) : RowV (w.setCell ⟨B, 10, none⟩ v') B 31 15 (fld few n last v' u mp sz kv) :=
  h.store 10 _ (fun j hj hne => by unfold fld; simp only [hne, if_false]) (by simp [fld])

set_option maxRecDepth 100000 in
set_option maxHeartbeats 1000000 in
theorem add_kept (B : Nat) (few : Nat → ByteArray) (n : Nat) (last : ByteArray) (v : Value) (un : Bool) (sz : Nat) (kv : Value) (f : Fn) (fa fb : Array Value) (name : ByteArray) (w : World)
    (hrow : RowV w B 31 15 (fld few n last v un (.map none) sz kv)) (h8 : 8 ≤ n) (hn : n ≤ 8192) (hkv : kv = .func f fa fb) (hun : un1 un n name last = false) :
    Calls Try.prog 10 #[.pointer (some ⟨B, 0, none⟩), .string name] w fun e w' => e = .returned (.bool true) ∧ RowV w' B 31 15 (fld few (n + 1) name v false (.map none) sz kv) ∧ w.grownBy w' (some B) ∧ w'.heap.size = w.heap.size := by
  have HU := hide hun
  clear hun
  have hnil := fun wx => run_eql_map_nil (P := Try.prog) wx 28 9 37 none Try.underlying28
  obtain ⟨cf, c8, c9, c10, c11, c12, c13, c14⟩ := few_cells few n last v un _ sz kv hrow
  have f11 := hrow.free 11
  have HROW := hide hrow
  clear hrow cf
  go_enter Try.func10, Try.ntmps10
  go_upto_region 2 with fail
  go_cut [25] (fun x wx => x = .bool (decide (0 < n) && le name last) ∧ w = wx)
  case first =>
    have h0 : 0 < n := by omega
    have i0 : (0 : Int) < (n : Int) := by omega
    go_wp2_with fail
    go_meet
    case rel => exact ⟨by simp [h0, le], rfl⟩
  case rest =>
    obtain ⟨rfl, rfl⟩ := hcut
    obtain ⟨cc, hcc⟩ : ∃ cc, cc = (decide (0 < n) && le name last) := ⟨_, rfl⟩
    rw [← hcc]
    have hun : un1 un n name last = (un || cc) := by rw [hcc]; rfl
    have HUN := hide hun
    clear hun hcc
    go_upto_if 25 with fail
    go_cut [26] (fun _ wx => RowV wx B 31 15 (fld few n last v (un1 un n name last) (.map none) sz kv) ∧ w.grownBy wx (some B) ∧ wx.heap.size = w.heap.size)
    case first =>
      cases cc
      · have e : un1 un n name last = un := by rw [HUN.out]; simp
        have HE := hide e
        clear e
        go_wp2_with fail
        go_meet
        case rel => exact ⟨by rw [HE.out]; exact HROW.out, grown_refl _ _, rfl⟩
      · have e : un1 un n name last = true := by rw [HUN.out]; simp
        have HE := hide e
        clear e
        go_wp2_with fail
        go_meet
        case rel => exact ⟨by rw [HE.out]; exact row_mark HROW.out, grown_here _ _, by simp [World.setCell]⟩
    case rest =>
      obtain ⟨hr1, hg1, hz1⟩ := hcut
      obtain ⟨w1, rfl⟩ : ∃ w1, w1 = wc := ⟨_, rfl⟩
      clear c8 c9 c10 c11 c12 c13 c14 f11 HROW HUN
      rw [HU.out] at hr1
      obtain ⟨cf, c8, c9, c10, c11, c12, c13, c14⟩ := few_cells few n last v _ _ sz kv hr1
      have i1 : ¬ (n : Int) < 8 := by omega
      have f8 := hr1.free 8
      have f9 := hr1.free 9
      have HEND := hide (row_counts (name := name) hr1)
      have HG1 := hide hg1
      have HZ1 := hide hz1
      have hef := eql_func
      subst hkv
      clear hr1 hg1 hz1 cf HU
      go_wp2_with fail
      go_ret
      exact ⟨rfl, HEND.out, grown_trans HG1.out (grown_trans (grown_here _ _) (grown_here _ _)), by simp [World.setCell, HZ1.out]⟩
end Go.Proofs.Qxb6604378a
