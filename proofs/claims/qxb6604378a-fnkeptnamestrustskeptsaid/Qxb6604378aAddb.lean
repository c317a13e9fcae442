/-
  THE WALKS of (*Names).Add with eight names or more: the map is made; or the names still come sorted.
-/
import Derived.Test.Qxb6604378aAdd
namespace Go.Proofs.Qxb6604378a
open Go.RowKit Go.Maps
set_option linter.unusedVariables false
set_option linter.unusedSimpArgs false

theorem Aft.kept {w w1 : World} {v : Value} {aft : List ByteArray} {B : Nat} (h : Aft w v aft) (hv : v.ownBlock ≠ some B) (hg : w.grownBy w1 (some B)) : Aft w1 v aft := by
  rcases h with h | ⟨g, c, rfl, hcs⟩
  · exact .inl h
  · exact .inr ⟨g, c, rfl, fun i hi => hg.cell (hcs i hi) (by simpa [Value.ownBlock] using hv)⟩
theorem Tells.kept {w w1 : World} {B n : Nat} {kv : Value} {kk : List ByteArray} (h : Tells w B n kv kk) (hg : w.grownBy w1 (some B)) : Tells w1 B n kv kk := by
  rcases h with h | ⟨Bk, gk, c, K, h1, h2, h3, h4, h5, h6, h7, h8⟩
  · exact .inl h
  · exact .inr ⟨Bk, gk, c, K, h1, ⟨hg.cell h2.1 (by simpa using h6), fun i hi => hg.cell (h2.2 i hi) (by simpa using h7)⟩, h3, h4, h5, h6, h7, h8⟩

set_option maxRecDepth 100000 in
set_option maxHeartbeats 1000000 in
theorem add_index (B : Nat) (few : Nat → ByteArray) (n : Nat) (last : ByteArray) (v : Value) (un : Bool) (sz : Nat) (kv : Value) (aft kk : List ByteArray) (name : ByteArray) (w : World)
    (hrow : RowV w B 31 15 (fld few n last v un (.map none) sz kv)) (h8 : 8 ≤ n) (hn : n ≤ 8192) (hsz : sz ≤ 65536) (hfew : ∀ i, (few i).size ≤ maxLen) (hname : name.size ≤ maxLen)
    (haft : Aft w v aft) (hal : aft.length ≤ 8192) (has : ∀ s ∈ aft, s.size ≤ maxLen) (hvB : v.ownBlock ≠ some B) (htell : Tells w B n kv kk) (hkl : kk.length ≤ 8192) (hun : un1 un n name last = true) :
    Calls Try.prog 10 #[.pointer (some ⟨B, 0, none⟩), .string name] w fun e w' => e = .returned (.bool (!mem (firsts few ++ aft ++ kk) name)) ∧ w'.cell? ⟨B, 12, none⟩ = some (.map (some w.heap.size)) ∧ SetAt w' w.heap.size (firsts few ++ aft ++ kk ++ [name]) ∧ w.grownBy w' (some B) := by
  have hBz := hrow.lt
  obtain ⟨S, hS⟩ : ∃ S, S = firsts few ++ aft ++ kk := ⟨_, rfl⟩
  have hSl : S.length ≤ 20000 := by rw [hS]; simp [firsts]; omega
  rw [← hS]
  have hgn := grown_new S name
  rw [← hgn]
  have HIDX := hide (And.intro haft (And.intro has (And.intro hvB (And.intro htell (And.intro hfew (And.intro hS hun))))))
  have hkey := key_of name hname
  clear haft has hvB htell hfew hgn hS hun
  have hnil := fun wx => run_eql_map_nil (P := Try.prog) wx 28 9 37 none Try.underlying28
  obtain ⟨cf, c8, c9, c10, c11, c12, c13, c14⟩ := few_cells few n last v un _ sz kv hrow
  have f11 := hrow.free 11
  have HROW := hide hrow
  clear hrow cf
  go_enter Try.func10, Try.ntmps10
  go_upto_region 2 with fail
  go_cut [25] (fun x wx => x = .bool (decide (0 < n) && le name last) ∧ w = wx)
  case first =>
    have h0 : 0 < n := by omega
    have i0 : (0 : Int) < (n : Int) := by omega
    go_wp2_with fail
    go_meet
    case rel => exact ⟨by simp [h0, le], rfl⟩
  case rest =>
    obtain ⟨rfl, rfl⟩ := hcut
    obtain ⟨cc, hcc⟩ : ∃ cc, cc = (decide (0 < n) && le name last) := ⟨_, rfl⟩
    rw [← hcc]
    have hun : un1 un n name last = (un || cc) := by rw [hcc]; rfl
    have HUN := hide hun
    clear hun hcc
    go_upto_if 25 with fail
    go_cut [26] (fun _ wx => RowV wx B 31 15 (fld few n last v (un1 un n name last) (.map none) sz kv) ∧ w.grownBy wx (some B) ∧ wx.heap.size = w.heap.size)
    case first =>
      cases cc
      · have e : un1 un n name last = un := by rw [HUN.out]; simp
        have HE := hide e
        clear e
        go_wp2_with fail
        go_meet
        case rel => exact ⟨by rw [HE.out]; exact HROW.out, grown_refl _ _, rfl⟩
      · have e : un1 un n name last = true := by rw [HUN.out]; simp
        have HE := hide e
        clear e
        go_wp2_with fail
        go_meet
        case rel => exact ⟨by rw [HE.out]; exact row_mark HROW.out, grown_here _ _, by simp [World.setCell]⟩
    case rest =>
      obtain ⟨hr1, hg1, hz1⟩ := hcut
      obtain ⟨w1, rfl⟩ : ∃ w1, w1 = wc := ⟨_, rfl⟩
      clear c8 c9 c10 c11 c12 c13 c14 f11 HROW HUN
      obtain ⟨haft, has, hvB, htell, hfew, hS, hun⟩ := HIDX.out
      rw [hun] at hr1
      have hidx := index_any B few n last v true sz kv aft kk w1 hr1 h8 hn hsz hfew (haft.kept hvB hg1) hal has hvB (htell.kept hg1)
      rw [hz1, ← hS] at hidx
      have HI := hide hidx
      have HG1 := hide hg1
      obtain ⟨cf, c8, c9, c10, c11, c12, c13, c14⟩ := few_cells few n last v _ _ sz kv hr1
      have i1 : ¬ (n : Int) < 8 := by omega
      clear hidx hr1 hg1 haft has hvB htell hfew hS hun HIDX cf
      go_wp2_with fail
      refine HI.out.mono ?_
      rintro e w2 ⟨rfl, hr2, hs2, hg2⟩
      obtain ⟨m, hm, hown⟩ := hs2
      have d12 : w2.cell? ⟨B, 12, none⟩ = some (.map (some w.heap.size)) := (few_cells few n last _ _ _ sz kv hr2).2.2.2.2.2.1
      have hnil2 := fun wx => run_eql_map_nil (P := Try.prog) wx 28 9 37 (some w.heap.size) Try.underlying28
      have hne : some B ≠ some w.heap.size := by simp; omega
      have hsl := siz_le S
      have hsl2 := siz_le (S ++ [name])
      simp at hsl2
      have HG2 := hide hg2
      clear hr2 hg2 c8 c9 c10 c11 c12 c13 c14 HI
      go_wp2_with (first
        | (at_mapUpdate; refine wpList_mapUpdate_own _ rfl _ _ _ 28 rfl 9 37 law9 Try.underlying28 (unitElem (H := Unit)) w.heap.size m _ rfl hown (by unfold maxLen; omega) _ _ _ rfl rfl hkey _ [] unitElem_mk ?_; intro w3 hown3 hgrow3; have g12 := hgrow3.cell d12 hne)
        | (at_len; refine wpList_len_own _ rfl (.tmp 119) 28 rfl 9 37 Try.underlying28 (unitElem (H := Unit)) w.heap.size m _ rfl hown ?_)
        | (at_len; refine wpList_len_own _ rfl (.tmp 130) 28 rfl 9 37 Try.underlying28 (unitElem (H := Unit)) w.heap.size (m + 1) _ rfl hown3 ?_))
      go_ret
      refine ⟨?_, g12, setAt_put hm hown3, ?_⟩
      · have e : Maps.size ((setOf (H := Unit) (.agg []) (S.map key)).put (key name) (.agg [])) = siz (S ++ [name]) := by
          unfold siz; rw [List.map_append, List.map_singleton, setOf_snoc]
        show Ending.returned (.bool (decide (siz S < Maps.size ((setOf (H := Unit) (.agg []) (S.map key)).put (key name) (.agg []))))) = _
        rw [e]
      · have ht := grown_trans HG1.out HG2.out
        exact ⟨hgrow3.os.trans ht.os, hgrow3.tape.trans ht.tape, hgrow3.output.trans ht.output, Nat.le_trans ht.size hgrow3.size, fun i hi hne' => (hgrow3.block i (by have := ht.size; omega) (by simp; omega)).trans (ht.block i hi hne')⟩
end Go.Proofs.Qxb6604378a
