/-
  THE WALK of (*Names).Add while the names come sorted and the set keeps them itself.
-/
import Derived.Test.Qxb6604378aAddc
namespace Go.Proofs.Qxb6604378a
open Go.RowKit Go.Maps
set_option linter.unusedVariables false
set_option linter.unusedSimpArgs false

/-- Of what was there only the struct and the row have turned. -/
structure Turned (w w' : World) (B : Nat) (v : Value) : Prop where
  os : w'.os = w.os
  tape : w'.tape = w.tape
  output : w'.output = w.output
  size : w.heap.size ≤ w'.heap.size
  block : ∀ k, k < w.heap.size → k ≠ B → some k ≠ v.ownBlock → w'.heap[k]? = w.heap[k]?

/-- What Add leaves. -/
def OwnPost (B : Nat) (few : Nat → ByteArray) (n : Nat) (v : Value) (sz : Nat) (aft : List ByteArray) (name : ByteArray) (w : World) (e : Ending) (w' : World) : Prop :=
  e = .returned (.bool true) ∧ ∃ v', RowV w' B 31 15 (fld few (n + 1) name v' false (.map none) sz .nilFunc) ∧ w'.ownsRow 0 9 1 v' (aft.length + 1) ((aft ++ [name]).map Value.string) ∧ v'.ownBlock ≠ some B ∧
    (v'.ownBlock = v.ownBlock ∨ ∃ k, v'.ownBlock = some k ∧ w.heap.size ≤ k) ∧ Turned w w' B v

/-- Behind the making of the row, where there was none. -/
def Mid (B : Nat) (few : Nat → ByteArray) (n : Nat) (last : ByteArray) (sz : Nat) (aft : List ByteArray) (v : Value) (w wx : World) : Prop :=
  ∃ g c', RowV wx B 31 15 (fld few n last (.slice (some ⟨g, 0, none⟩) aft.length c') false (.map none) sz .nilFunc) ∧ wx.ownsRow 0 9 1 (.slice (some ⟨g, 0, none⟩) aft.length c') aft.length (aft.map Value.string) ∧ g ≠ B ∧
    (v.ownBlock = some g ∨ w.heap.size ≤ g) ∧ w.grownBy wx (some B)

theorem owns_same {w w1 : World} {v : Value} {n : Nat} {xs : List Value} {B : Nat} (h : w.ownsRow 0 9 1 v n xs) (hv : v.ownBlock ≠ some B) (hg : w.grownBy w1 (some B)) : w1.ownsRow 0 9 1 v n xs := h.kept hg (Or.inr hv)

theorem grown_none {a b c : World} {r : Option Nat} (h : a.grownBy b r) (k : b.grownBy c none) : a.grownBy c r :=
  ⟨k.os.trans h.os, k.tape.trans h.tape, k.output.trans h.output, Nat.le_trans h.size k.size, fun i hi hne => (k.block i (Nat.lt_of_lt_of_le hi h.size) (by simp)).trans (h.block i hi hne)⟩

set_option maxRecDepth 100000 in
set_option maxHeartbeats 1000000 in
theorem add_own (B : Nat) (few : Nat → ByteArray) (n : Nat) (last : ByteArray) (a : Option Addr) (c : Nat) (un : Bool) (sz : Nat) (aft : List ByteArray) (name : ByteArray) (w : World)
    (hrow : RowV w B 31 15 (fld few n last (.slice a aft.length c) un (.map none) sz .nilFunc)) (h8 : 8 ≤ n) (hn : n ≤ 8192) (hsz : sz ≤ 65536) (hal : aft.length ≤ 8192)
    (ho : w.ownsRow 0 9 1 (.slice a aft.length c) aft.length (aft.map Value.string)) (hvB : (Value.slice a aft.length c).ownBlock ≠ some B) (hun : un1 un n name last = false) :
    Calls Try.prog 10 #[.pointer (some ⟨B, 0, none⟩), .string name] w fun e w' => OwnPost B few n (.slice a aft.length c) sz aft name w e w' := by
  have HU := hide hun
  have HO := hide ho
  have HVB := hide hvB
  have hBz := hrow.lt
  clear hun ho hvB
  have hnil := fun wx => run_eql_map_nil (P := Try.prog) wx 28 9 37 none Try.underlying28
  obtain ⟨cf, c8, c9, c10, c11, c12, c13, c14⟩ := few_cells few n last (.slice a aft.length c) un _ sz .nilFunc hrow
  have f11 := hrow.free 11
  have HROW := hide hrow
  clear hrow cf
  go_enter Try.func10, Try.ntmps10
  go_upto_region 2 with fail
  go_cut [25] (fun x wx => x = .bool (decide (0 < n) && le name last) ∧ w = wx)
  case first =>
    have h0 : 0 < n := by omega
    have i0 : (0 : Int) < (n : Int) := by omega
    go_wp2_with fail
    go_meet
    case rel => exact ⟨by simp [h0, le], rfl⟩
  case rest =>
    obtain ⟨rfl, rfl⟩ := hcut
    obtain ⟨cc, hcc⟩ : ∃ cc, cc = (decide (0 < n) && le name last) := ⟨_, rfl⟩
    rw [← hcc]
    have hun : un1 un n name last = (un || cc) := by rw [hcc]; rfl
    have HUN := hide hun
    clear hun hcc
    go_upto_if 25 with fail
    go_cut [26] (fun _ wx => RowV wx B 31 15 (fld few n last (.slice a aft.length c) (un1 un n name last) (.map none) sz .nilFunc) ∧ w.grownBy wx (some B) ∧ wx.heap.size = w.heap.size)
    case first =>
      cases cc
      · have e : un1 un n name last = un := by rw [HUN.out]; simp
        have HE := hide e
        clear e
        go_wp2_with fail
        go_meet
        case rel => exact ⟨by rw [HE.out]; exact HROW.out, grown_refl _ _, rfl⟩
      · have e : un1 un n name last = true := by rw [HUN.out]; simp
        have HE := hide e
        clear e
        go_wp2_with fail
        go_meet
        case rel => exact ⟨by rw [HE.out]; exact row_mark HROW.out, grown_here _ _, by simp [World.setCell]⟩
    case rest =>
      obtain ⟨hr1, hg1, hz1⟩ := hcut
      obtain ⟨w1, rfl⟩ : ∃ w1, w1 = wc := ⟨_, rfl⟩
      clear c8 c9 c10 c11 c12 c13 c14 f11 HROW HUN
      rw [HU.out] at hr1
      obtain ⟨cf, c8, c9, c10, c11, c12, c13, c14⟩ := few_cells few n last (.slice a aft.length c) _ _ sz _ hr1
      have i1 : ¬ (n : Int) < 8 := by omega
      have hef := eql_nilf
      have hsn := fun wx => Lib.run_eql_slice_nil (P := Try.prog) wx 22 9 a aft.length c 0 0 Try.underlying22
      have HR1 := hide hr1
      have HG1 := hide hg1
      have f10 := hr1.free 10
      have HZ1 := hide hz1
      clear hr1 hg1 cf HU hz1
      go_upto_if 78 with fail
      go_cut [79] (fun _ wx => Mid B few n last sz aft (.slice a aft.length c) w wx)
      case first =>
        cases a with
        | none =>
          have haft : aft = [] := by
            rcases HO.out.2 with ⟨_, h⟩ | ⟨g, _, _, h, _⟩
            · exact List.eq_nil_of_length_eq_zero h
            · cases h
          subst haft
          obtain ⟨i0, hi, hz0, hz1, hz2⟩ := info_parts info9
          have hB1 : B < w1.heap.size := by have := HG1.out.size; omega
          by_cases hb : (sz : Int) - 8 < 8
          · skip
            go_wp2_with (first | (at_make; refine wpList_make_own _ rfl _ _ 22 rfl 0 9 i0 (.string ⟨#[]⟩) 1 Try.underlying22 hi hz0 hz1 _ _ _ 8 rfl rfl (by omega) (by rw [hz2]; omega) (by unfold maxLen; omega) (Nat.zero_le _) ?_; intro w2 hown2 hgrow2; have g10 := hgrow2.cell c10 (by simp); have h10 := (World.frozen?_of_block (a := ⟨B, 10, none⟩) (hgrow2.block B (by omega) (by simp))).trans f10))
            go_meet
            case rel =>
              have hr2 := HR1.out.of_block (hgrow2.block B (by omega) (by simp))
              have hlt2 := (hown2.lt _ rfl).2
              refine ⟨w1.heap.size, 8, row_after _ hr2, ?_, by omega, Or.inr (by have := HG1.out.size; omega), grown_trans (grown_none HG1.out hgrow2) (grown_here _ _)⟩
              exact ownsRow_setCell_other hown2 (a := ⟨B, 10, none⟩) (by simp [Value.ownBlock]; omega) _
          · skip
            go_wp2_with (first | (at_make; refine wpList_make_own _ rfl _ _ 22 rfl 0 9 i0 (.string ⟨#[]⟩) 1 Try.underlying22 hi hz0 hz1 _ _ _ (sz - 8) rfl rfl (by omega) (by rw [hz2]; omega) (by unfold maxLen; omega) (Nat.zero_le _) ?_; intro w2 hown2 hgrow2; have g10 := hgrow2.cell c10 (by simp); have h10 := (World.frozen?_of_block (a := ⟨B, 10, none⟩) (hgrow2.block B (by omega) (by simp))).trans f10))
            go_meet
            case rel =>
              have hr2 := HR1.out.of_block (hgrow2.block B (by omega) (by simp))
              have hlt2 := (hown2.lt _ rfl).2
              refine ⟨w1.heap.size, (sz - 8), row_after _ hr2, ?_, by omega, Or.inr (by have := HG1.out.size; omega), grown_trans (grown_none HG1.out hgrow2) (grown_here _ _)⟩
              exact ownsRow_setCell_other hown2 (a := ⟨B, 10, none⟩) (by simp [Value.ownBlock]; omega) _
        | some ad =>
          have hsh : ∃ g, ad = ⟨g, 0, none⟩ := by
            rcases HO.out.2 with ⟨h, _⟩ | ⟨g, _, _, h, _⟩
            · cases h
            · cases h; exact ⟨g, rfl⟩
          obtain ⟨g, rfl⟩ := hsh
          have HM : Hid (Mid B few n last sz aft (.slice (some ⟨g, 0, none⟩) aft.length c) w w1) := ⟨g, c, HR1.out, owns_same HO.out HVB.out HG1.out, fun e => HVB.out (by rw [← e]; rfl), Or.inl rfl, HG1.out⟩
          go_wp2_with fail
          go_meet
          case rel => exact HM.out
      case rest =>
        obtain ⟨g, c', hr2, ho2, hgB, hloc, hg2⟩ := hcut
        obtain ⟨w2, rfl⟩ : ∃ w2, w2 = wc := ⟨_, rfl⟩
        clear c8 c9 c10 c11 c12 c13 c14 f10 hef hsn HR1 HG1 HO
        obtain ⟨cf, c8, c9, c10, c11, c12, c13, c14⟩ := few_cells few n last _ _ _ sz _ hr2
        have f8 := hr2.free 8
        have f9 := hr2.free 9
        have f10 := hr2.free 10
        have hB2 := hr2.lt
        have HR2 := hide hr2
        have HG2 := hide hg2
        have HLOC := hide hloc
        have HD := hide (doubled_any g aft.length c' (aft.map Value.string) w2 ho2 hal)
        have hgz := (ho2.lt g rfl).2
        clear hr2 hg2 hloc cf ho2
        go_wp2_with fail
        refine HD.out.mono ?_
        rintro e w3 ⟨v3, rfl, ho3, hg3, hl3⟩
        obtain ⟨g3, c3, hv3⟩ : ∃ g3 c3, v3 = .slice (some ⟨g3, 0, none⟩) aft.length c3 := by
          rcases ho3.2 with ⟨h, _⟩ | ⟨g3, c3, _, h, _⟩
          · rw [h] at hl3; rcases hl3 with h | h <;> cases h
          · exact ⟨g3, c3, h⟩
        subst hv3
        have hg3B : g3 ≠ B := by
          rcases hl3 with h | h
          · have : g3 = g := by simpa [Value.ownBlock] using h
            omega
          · have : g3 = w2.heap.size := by simpa [Value.ownBlock] using h
            omega
        have HL3 := hide hl3
        have hb3 := hg3.block B hB2 (by simp)
        have d8 := (World.cell?_of_block (a := ⟨B, 8, none⟩) hb3).trans c8
        have d9 := (World.cell?_of_block (a := ⟨B, 9, none⟩) hb3).trans c9
        have d10 := (World.cell?_of_block (a := ⟨B, 10, none⟩) hb3).trans c10
        have d12 := (World.cell?_of_block (a := ⟨B, 12, none⟩) hb3).trans c12
        have HR3 := hide (HR2.out.of_block hb3)
        have HG3 := hide hg3
        have hz3 : B < w3.heap.size := by have := hg3.size; omega
        have hg3z := (ho3.lt g3 rfl).2
        obtain ⟨i0, hi, hz0, hz1', hz2⟩ := info_parts info9
        clear hb3 hl3 hg3 c8 c9 c10 c11 c12 c13 c14 f8 f9 f10 HD HR2
        go_wp2_with (first | (at_builtin; refine wpList_append_own_at _ rfl (.tmp 94) (.tmp 96) 22 rfl 0 9 i0 (.string ⟨#[]⟩) 1 16 Try.underlying22 hi hz0 hz1' hz2 rfl (by decide) _ _ _ rfl (ho3.alloc _) ⟨w3.heap.size, 0, none⟩ 1 1 [.string name] rfl rfl (cell_one_new _ _ _) (by simp [Value.oneCell']) (by unfold maxLen; omega) (by omega) (Nat.zero_le _) ?_))
        intro v4 w4 ho4 hg4 hn4 hl4
        obtain ⟨g4, c4, hv4⟩ : ∃ g4 c4, v4 = .slice (some ⟨g4, 0, none⟩) (aft.length + 1) c4 := by
          rcases ho4.2 with ⟨h, _⟩ | ⟨g4, c4, _, h, _⟩
          · exact absurd h hn4
          · exact ⟨g4, c4, h⟩
        subst hv4
        have hb4 : w4.heap[B]? = w3.heap[B]? := (hg4.block B (by simp; omega) (by simp [Value.ownBlock]; omega)).trans (Below.heap_alloc w3 _ B hz3)
        have HR4 := hide (HR3.out.of_block hb4)
        have e8 := (World.cell?_of_block (a := ⟨B, 8, none⟩) hb4).trans d8
        have e9 := (World.cell?_of_block (a := ⟨B, 9, none⟩) hb4).trans d9
        have e10 := (World.cell?_of_block (a := ⟨B, 10, none⟩) hb4).trans d10
        have e12 := (World.cell?_of_block (a := ⟨B, 12, none⟩) hb4).trans d12
        have k8 := HR4.out.free 8
        have k9 := HR4.out.free 9
        have k10 := HR4.out.free 10
        have hg4B : g4 ≠ B := by
          rcases hl4 with h | h
          · have : g4 = g3 := by simpa [Value.ownBlock] using h
            omega
          · have : g4 = w3.heap.size + 1 := by simpa [Value.ownBlock] using h
            omega
        have HH := hide (And.intro ho4 (And.intro hg4 hl4))
        clear ho4 hg4 hn4 hl4 hb4 d8 d9 d10 d12 ho3 hi hz0 hz1' hz2
        go_wp2_with fail
        go_ret
        obtain ⟨ho4, hg4, hl4⟩ := HH.out
        have ho4' : w4.ownsRow 0 9 1 (.slice (some ⟨g4, 0, none⟩) (aft.length + 1) c4) (aft.length + 1) ((aft ++ [name]).map Value.string) := by
          rw [List.map_append, List.map_singleton]; exact ho4
        have hob : (Value.slice (some ⟨g4, 0, none⟩) (aft.length + 1) c4).ownBlock = some g4 := rfl
        have hne : ∀ k, (Value.slice (some ⟨g4, 0, none⟩) (aft.length + 1) c4).ownBlock ≠ some (⟨B, k, none⟩ : Addr).block := fun k => by rw [hob]; simpa using hg4B
        refine ⟨rfl, _, row_counts (row_after _ HR4.out), ownsRow_setCell_other (ownsRow_setCell_other (ownsRow_setCell_other ho4' (hne 10) _) (hne 8) _) (hne 9) _, hne 0, ?_, ?_⟩
        · rcases hl4 with h | h
          · rcases HL3.out with h' | h'
            · rcases HLOC.out with h'' | h''
              · exact Or.inl (h.trans (h'.trans h''.symm))
              · exact Or.inr ⟨g, h.trans h', h''⟩
            · exact Or.inr ⟨_, h.trans h', HG2.out.size⟩
          · exact Or.inr ⟨_, h, by have h1 := HG2.out.size; have h2 := HG3.out.size; omega⟩
        · have hA : ∀ k, k < w.heap.size → k ≠ B → some k ≠ (Value.slice a aft.length c).ownBlock → w4.heap[k]? = w.heap[k]? := by
            intro k hk hkB hkv
            have s2 := HG2.out.size
            have s3 := HG3.out.size
            have hk3 : some k ≠ some g3 := by
              rcases HL3.out with h' | h'
              · rcases HLOC.out with h'' | h''
                · intro e
                  exact hkv (e.trans (h'.trans h''.symm))
                · intro e
                  have e1 : some k = some g := e.trans h'
                  have e2 : k = g := by simpa using e1
                  omega
              · intro e
                have e1 : some k = some w2.heap.size := e.trans h'
                have e2 : k = w2.heap.size := by simpa using e1
                omega
            rw [hg4.block k (by simp; omega) hk3, Below.heap_alloc w3 _ k (by omega), HG3.out.block k (by omega) (by simp), HG2.out.block k hk (by simpa using hkB)]
          have s2 := HG2.out.size
          have s3 := HG3.out.size
          have s4 := hg4.size
          refine ⟨hg4.os.trans (HG3.out.os.trans HG2.out.os), hg4.tape.trans (HG3.out.tape.trans HG2.out.tape), hg4.output.trans (HG3.out.output.trans HG2.out.output), ?_, fun k hk hkB hkv => ?_⟩
          · simp [World.setCell] at s4 ⊢; omega
          · rw [Below.heap_setCell _ _ _ _ hkB, Below.heap_setCell _ _ _ _ hkB, Below.heap_setCell _ _ _ _ hkB]
            exact hA k hk hkB hkv
end Go.Proofs.Qxb6604378a
