/-
  THE WALKS of the teller (ZZKeptNamesFrom$1) and of (*Names).index.
-/
import Derived.Test.Qxb6604378aSt
import Derived.Deep.DeepCutAuto
import Derived.Deep.CutBlock
import Derived.Deep.RegionHeld3
namespace Go.Proofs.Qxb6604378a
open Go.RowKit Go.Maps
set_option linter.unusedVariables false
set_option linter.unusedSimpArgs false

/-- What the caller keeps: a box that holds a slice whose names are K. -/
def KeptAt (w : World) (Bk gk c : Nat) (K : List ByteArray) : Prop :=
  w.cell? ⟨Bk, 0, none⟩ = some (.slice (some ⟨gk, 0, none⟩) K.length c) ∧ ∀ i, i < K.length → w.cell? ⟨gk, i, none⟩ = some (.string (K.getD i E))

theorem kept_any (Bk gk c i : Nat) (K : List ByteArray) (w : World) (hk : KeptAt w Bk gk c K) (hi : i < K.length) (hl : K.length ≤ 8192) :
    Calls Try.prog 16 #[.int .i64 (i : Int), .pointer (some ⟨Bk, 0, none⟩)] w fun e w' => e = .returned (.string (K.getD i E)) ∧ w' = w := by
  have c1 := hk.1
  have c2 := hk.2 i hi
  have i0 : (i : Int) < (K.length : Int) := by omega
  obtain ⟨x, hx⟩ : ∃ x, x = K.getD i E := ⟨_, rfl⟩
  rw [← hx] at c2 ⊢
  clear hk hx
  go_enter Try.func16, Try.ntmps16
  go_wp2
  go_ret
  exact ⟨rfl, rfl⟩

/-- The eight first names. -/
def firsts (few : Nat → ByteArray) : List ByteArray := (List.range 8).map few

theorem few_cells (few : Nat → ByteArray) (n : Nat) (last : ByteArray) (v : Value) (un : Bool) (mp : Value) (sz : Nat) (kv : Value) {w : World} {B : Nat} (h : RowV w B 31 15 (fld few n last v un mp sz kv)) :
    (∀ i, i < 8 → w.cell? ⟨B, i, none⟩ = some (.string (few i))) ∧ w.cell? ⟨B, 8, none⟩ = some (.int .i64 (n : Int)) ∧ w.cell? ⟨B, 9, none⟩ = some (.string last) ∧ w.cell? ⟨B, 10, none⟩ = some v ∧
    w.cell? ⟨B, 11, none⟩ = some (.bool un) ∧ w.cell? ⟨B, 12, none⟩ = some mp ∧ w.cell? ⟨B, 13, none⟩ = some (.int .i64 (sz : Int)) ∧ w.cell? ⟨B, 14, none⟩ = some kv := by
  refine ⟨fun i hi => ?_, h.cell 8 (by omega), h.cell 9 (by omega), h.cell 10 (by omega), h.cell 11 (by omega), h.cell 12 (by omega), h.cell 13 (by omega), h.cell 14 (by omega)⟩
  rw [h.cell i (by omega)]
  simp [fld, hi]

theorem idx27_0 (few : Nat → ByteArray) (w : World) : (Instr.index 27 (.agg #[.string (few 0), .string (few 1), .string (few 2), .string (few 3), .string (few 4), .string (few 5), .string (few 6), .string (few 7)]) (.int .i64 0)).run Try.prog w = .ok (.string (few 0)) w := by kernel_rfl
theorem idx27_1 (few : Nat → ByteArray) (w : World) : (Instr.index 27 (.agg #[.string (few 0), .string (few 1), .string (few 2), .string (few 3), .string (few 4), .string (few 5), .string (few 6), .string (few 7)]) (.int .i64 1)).run Try.prog w = .ok (.string (few 1)) w := by kernel_rfl
theorem idx27_2 (few : Nat → ByteArray) (w : World) : (Instr.index 27 (.agg #[.string (few 0), .string (few 1), .string (few 2), .string (few 3), .string (few 4), .string (few 5), .string (few 6), .string (few 7)]) (.int .i64 2)).run Try.prog w = .ok (.string (few 2)) w := by kernel_rfl
theorem idx27_3 (few : Nat → ByteArray) (w : World) : (Instr.index 27 (.agg #[.string (few 0), .string (few 1), .string (few 2), .string (few 3), .string (few 4), .string (few 5), .string (few 6), .string (few 7)]) (.int .i64 3)).run Try.prog w = .ok (.string (few 3)) w := by kernel_rfl
theorem idx27_4 (few : Nat → ByteArray) (w : World) : (Instr.index 27 (.agg #[.string (few 0), .string (few 1), .string (few 2), .string (few 3), .string (few 4), .string (few 5), .string (few 6), .string (few 7)]) (.int .i64 4)).run Try.prog w = .ok (.string (few 4)) w := by kernel_rfl
theorem idx27_5 (few : Nat → ByteArray) (w : World) : (Instr.index 27 (.agg #[.string (few 0), .string (few 1), .string (few 2), .string (few 3), .string (few 4), .string (few 5), .string (few 6), .string (few 7)]) (.int .i64 5)).run Try.prog w = .ok (.string (few 5)) w := by kernel_rfl
theorem idx27_6 (few : Nat → ByteArray) (w : World) : (Instr.index 27 (.agg #[.string (few 0), .string (few 1), .string (few 2), .string (few 3), .string (few 4), .string (few 5), .string (few 6), .string (few 7)]) (.int .i64 6)).run Try.prog w = .ok (.string (few 6)) w := by kernel_rfl
theorem idx27_7 (few : Nat → ByteArray) (w : World) : (Instr.index 27 (.agg #[.string (few 0), .string (few 1), .string (few 2), .string (few 3), .string (few 4), .string (few 5), .string (few 6), .string (few 7)]) (.int .i64 7)).run Try.prog w = .ok (.string (few 7)) w := by kernel_rfl
theorem idx27 (few : Nat → ByteArray) (k : Nat) (hk : k < 8) (w : World) : (Instr.index 27 (.agg #[.string (few 0), .string (few 1), .string (few 2), .string (few 3), .string (few 4), .string (few 5), .string (few 6), .string (few 7)]) (.int .i64 (k : Int))).run Try.prog w = .ok (.string (few k)) w := by
  match k, hk with
  | 0, _ => exact idx27_0 few w
  | 1, _ => exact idx27_1 few w
  | 2, _ => exact idx27_2 few w
  | 3, _ => exact idx27_3 few w
  | 4, _ => exact idx27_4 few w
  | 5, _ => exact idx27_5 few w
  | 6, _ => exact idx27_6 few w
  | 7, _ => exact idx27_7 few w

theorem firsts_take (few : Nat → ByteArray) (k : Nat) (hk : k < 8) : (firsts few).take (k + 1) = (firsts few).take k ++ [few k] := by
  rw [List.take_succ_eq_append_getElem (by simpa [firsts] using hk)]
  simp [firsts]

/-- The world behind the making of the map. -/
theorem made_facts {w : World} {B : Nat} {F F' : Nat → Value} (h : RowV w B 31 15 F) (ho : ∀ j, j < 15 → j ≠ 12 → F' j = F j) (h12 : F' 12 = .map (some w.heap.size)) :
    RowV ((w.setCell ⟨B, 12, none⟩ (.map (some w.heap.size))).alloc (.map #[] 0)).drew B 31 15 F' ∧ SetAt ((w.setCell ⟨B, 12, none⟩ (.map (some w.heap.size))).alloc (.map #[] 0)).drew w.heap.size [] ∧
    w.grownBy ((w.setCell ⟨B, 12, none⟩ (.map (some w.heap.size))).alloc (.map #[] 0)).drew (some B) := by
  have hB := h.lt
  have e1 : (w.setCell ⟨B, 12, none⟩ (.map (some w.heap.size))).heap.size = w.heap.size := by simp [World.setCell]
  refine ⟨?_, ?_, ?_⟩
  · exact (h.store 12 _ ho h12.symm).of_block (Below.heap_alloc _ _ _ (by omega))
  · have := set_made (w.setCell ⟨B, 12, none⟩ (.map (some w.heap.size)))
    rw [e1] at this
    exact this
  · refine ⟨rfl, rfl, rfl, ?_, fun k hk hne => ?_⟩
    · show w.heap.size ≤ ((w.setCell ⟨B, 12, none⟩ (.map (some w.heap.size))).alloc (.map #[] 0)).heap.size
      simp [World.setCell]
    · show ((w.setCell ⟨B, 12, none⟩ (.map (some w.heap.size))).alloc (.map #[] 0)).heap[k]? = _
      rw [Below.heap_alloc _ _ _ (by omega), Below.heap_setCell _ _ _ _ (fun e => hne (by rw [e]))]

theorem grown_trans {a b c : World} {r : Option Nat} (h : a.grownBy b r) (k : b.grownBy c r) : a.grownBy c r :=
  ⟨k.os.trans h.os, k.tape.trans h.tape, k.output.trans h.output, Nat.le_trans h.size k.size, fun i hi hne => (k.block i (Nat.lt_of_lt_of_le hi h.size) hne).trans (h.block i hi hne)⟩
theorem grown_refl (w : World) (r : Option Nat) : w.grownBy w r := ⟨rfl, rfl, rfl, Nat.le_refl _, fun _ _ _ => rfl⟩

theorem grown_drew {a b : World} {r : Option Nat} (h : a.drew.grownBy b r) : a.grownBy b r := ⟨h.os, h.tape, h.output, h.size, h.block⟩

/-- Of what was there only the struct has turned. -/
theorem index_frame {w w1 wr : World} {B : Nat} (h1 : w.grownBy w1 (some B)) (h2 : w1.grownBy wr (some w.heap.size)) (k : Nat) (v : Value) : w.grownBy (wr.setCell ⟨B, k, none⟩ v) (some B) := by
  refine ⟨h2.os.trans h1.os, h2.tape.trans h1.tape, h2.output.trans h1.output, ?_, fun i hi hne => ?_⟩
  · have := h1.size
    have := h2.size
    simp [World.setCell]; omega
  · rw [Below.heap_setCell _ _ _ _ (fun e => hne (by rw [e]))]
    exact (h2.block i (by have := h1.size; omega) (by simp; omega)).trans (h1.block i hi hne)

theorem neq_nilf (w : World) : (binOp .neq 29 .nilFunc .nilFunc).run Try.prog w = .ok (.bool false) w := by kernel_rfl
theorem neq_func (f : Fn) (a b : Array Value) (w : World) : (binOp .neq 29 (.func f a b) .nilFunc).run Try.prog w = .ok (.bool true) w := by kernel_rfl
theorem eql_nilf (w : World) : (binOp .eql 29 .nilFunc .nilFunc).run Try.prog w = .ok (.bool true) w := by kernel_rfl
theorem eql_func (f : Fn) (a b : Array Value) (w : World) : (binOp .eql 29 (.func f a b) .nilFunc).run Try.prog w = .ok (.bool false) w := by kernel_rfl

/-- The row of the later names, opened. -/
def Aft (w : World) (v : Value) (aft : List ByteArray) : Prop :=
  (v = .slice none 0 0 ∧ aft = []) ∨ ∃ g c, v = .slice (some ⟨g, 0, none⟩) aft.length c ∧ ∀ i, i < aft.length → w.cell? ⟨g, i, none⟩ = some (.string (aft.getD i E))

/-- What tells the names from the ninth on. -/
def Tells (w : World) (B n : Nat) (kv : Value) (kk : List ByteArray) : Prop :=
  (kv = .nilFunc ∧ kk = []) ∨ ∃ Bk gk c K, kv = .func (Fn.func 16) #[] #[.pointer (some ⟨Bk, 0, none⟩)] ∧ KeptAt w Bk gk c K ∧ n ≤ K.length ∧ K.length ≤ 8192 ∧ kk = (K.take n).drop 8 ∧ Bk ≠ B ∧ gk ≠ B ∧ ∀ s ∈ K, s.size ≤ maxLen

set_option maxRecDepth 100000 in
set_option maxHeartbeats 2000000 in
theorem index_any (B : Nat) (few : Nat → ByteArray) (n : Nat) (last : ByteArray) (v : Value) (un : Bool) (sz : Nat) (kv : Value) (aft kk : List ByteArray) (w : World)
    (hrow : RowV w B 31 15 (fld few n last v un (.map none) sz kv)) (h8 : 8 ≤ n) (hn : n ≤ 8192) (hsz : sz ≤ 65536) (hfew : ∀ i, (few i).size ≤ maxLen)
    (haft : Aft w v aft) (hal : aft.length ≤ 8192) (has : ∀ s ∈ aft, s.size ≤ maxLen) (hvB : v.ownBlock ≠ some B) (htell : Tells w B n kv kk) :
    Calls Try.prog 15 #[.pointer (some ⟨B, 0, none⟩)] w fun e w' => e = .returned (.tuple #[]) ∧ RowV w' B 31 15 (fld few n last (.slice none 0 0) un (.map (some w.heap.size)) sz kv) ∧ SetAt w' w.heap.size (firsts few ++ aft ++ kk) ∧ w.grownBy w' (some B) := by
  obtain ⟨cf, c8, c9, c10, c11, c12, c13, c14⟩ := few_cells few n last v un _ sz kv hrow
  have f12 := hrow.free 12
  have hBz := hrow.lt
  have hF := made_facts hrow (F' := fld few n last v un (.map (some w.heap.size)) sz kv) (fun j hj hne => by unfold fld; simp only [hne, if_false]) (by simp [fld])
  have HF := hide hF
  have HROW := hide hrow
  clear hF hrow
  go_enter Try.func15, Try.ntmps15
  go_wp2_with fail
  go_cut [18] (fun x wx => x = .map (some w.heap.size) ∧ RowV wx B 31 15 (fld few n last v un (.map (some w.heap.size)) sz kv) ∧ SetAt wx w.heap.size [] ∧ w.grownBy wx (some B))
  case first =>
    have hmk := make_hint
    go_region
    all_goals go_wp2_with fail
    all_goals
      go_meet
      case rel => exact ⟨rfl, HF.out⟩
  case rest =>
    obtain ⟨rfl, hr1, hs1, hg1⟩ := hcut
    obtain ⟨w1, rfl⟩ : ∃ w1, w1 = wc := ⟨_, rfl⟩
    clear cf c8 c9 c10 c11 c12 c13 c14 f12 HF HROW
    obtain ⟨cf, c8, c9, c10, c11, c12, c13, c14⟩ := few_cells few n last v un _ sz kv hr1
    have x0 := cf 0 (by omega)
    have x1 := cf 1 (by omega)
    have x2 := cf 2 (by omega)
    have x3 := cf 3 (by omega)
    have x4 := cf 4 (by omega)
    have x5 := cf 5 (by omega)
    have x6 := cf 6 (by omega)
    have x7 := cf 7 (by omega)
    clear cf
    go_upto_block 0 with fail
    clear x0 x1 x2 x3 x4 x5 x6 x7
    go_cut [25] (fun _ wx => SetAt wx w.heap.size (firsts few) ∧ w1.grownBy wx (some w.heap.size))
    case first =>
      go_wp2_with fail
      go_loopw [25] (fun t wr => ∃ k : Nat, t = .int .i64 k ∧ k ≤ 8 ∧ SetAt wr w.heap.size ((firsts few).take k) ∧ w1.grownBy wr (some w.heap.size)) (fun t _ => 8 - (intOf t).toNat)
      case atStart => exact ⟨0, rfl, Nat.zero_le _, hs1, grown_refl _ _⟩
      case round =>
        obtain ⟨k, rfl, hk, ⟨m, hm, hown⟩, hgr⟩ := hrel
        have d12 : wr.cell? ⟨B, 12, none⟩ = some (.map (some w.heap.size)) := hgr.cell c12 (by simp; omega)
        by_cases hlt : k < 8
        · have hix := idx27 few k hlt
          have hkey := key_of (few k) (hfew k)
          have hml : m ≤ 8 := by simp [firsts] at hm; omega
          have i0 : (k : Int) < 8 := by omega
          go_wp2_with (first | (at_mapUpdate; refine wpList_mapUpdate_own _ rfl _ _ _ 28 rfl 9 37 law9 Try.underlying28 (unitElem (H := Unit)) w.heap.size m _ rfl hown (by unfold maxLen; omega) _ _ _ rfl rfl hkey _ [] unitElem_mk ?_; intro w2 hown2 hgrow2))
          go_roundw
          case rel => exact ⟨k + 1, by go_num, by omega, by rw [firsts_take few k hlt]; exact setAt_put hm hown2, grown_trans hgr hgrow2⟩
          case measure => simp [intOf]; omega
        · obtain rfl : k = 8 := by omega
          have e8 : (firsts few).take 8 = firsts few := List.take_of_length_le (by simp [firsts])
          rw [e8] at hm hown
          have hfin : SetAt wr w.heap.size (firsts few) := ⟨m, hm, hown⟩
          have HFI := hide hfin
          clear hown hfin
          go_wp2_with fail
          go_meet
          case rel => exact ⟨HFI.out, hgr⟩
    case rest =>
      obtain ⟨hs2, hg2⟩ := hcut
      obtain ⟨w2, rfl⟩ : ∃ w2, w2 = wc := ⟨_, rfl⟩
      have hne : some B ≠ some w.heap.size := by simp; omega
      have e8 : w2.cell? ⟨B, 8, none⟩ = some (.int .i64 (n : Int)) := hg2.cell c8 hne
      have e10 : w2.cell? ⟨B, 10, none⟩ = some v := hg2.cell c10 hne
      clear c8 c9 c10 c11 c13 c14
      go_upto_region 6 with fail
      go_cut [38, 39, 40] (fun a b c wx => v = a ∧ b = .int .i64 (aft.length : Nat) ∧ c = .int .i64 0 ∧ w2 = wx)
      case first =>
        rcases haft with ⟨rfl, rfl⟩ | ⟨g, c, rfl, hcs⟩
        · go_wp2_with fail
          go_meet
          case rel => exact ⟨rfl, rfl, rfl, rfl⟩
        · clear hcs
          go_wp2_with fail
          go_meet
          case rel => exact ⟨rfl, rfl, rfl, rfl⟩
      case rest =>
        obtain ⟨rfl, rfl, rfl, rfl⟩ := hcut
        go_upto_block 2 with fail
        go_cut [40] (fun _ wx => SetAt wx w.heap.size (firsts few ++ aft) ∧ w1.grownBy wx (some w.heap.size))
        case first =>
          go_wp2_with fail
          go_loopw [40] (fun t wr => ∃ k : Nat, t = .int .i64 k ∧ k ≤ aft.length ∧ SetAt wr w.heap.size (firsts few ++ aft.take k) ∧ w1.grownBy wr (some w.heap.size)) (fun t _ => aft.length - (intOf t).toNat)
          case atStart => exact ⟨0, rfl, Nat.zero_le _, by simpa using hs2, hg2⟩
          case round =>
            obtain ⟨k, rfl, hk, ⟨m, hm, hown⟩, hgr⟩ := hrel
            have d12 : wr.cell? ⟨B, 12, none⟩ = some (.map (some w.heap.size)) := hgr.cell c12 hne
            by_cases hlt : k < aft.length
            · rcases haft with ⟨_, rfl⟩ | ⟨g, c, rfl, hcs⟩
              · simp at hlt
              have ck := hcs k hlt
              have hgl : g < w.heap.size := World.block_lt_of_cell? w _ ck
              have ck1 := hg1.cell ck (by simpa [Value.ownBlock] using hvB)
              have ck2 := hgr.cell ck1 (by simp; omega)
              have hks : (aft.getD k E).size ≤ maxLen := by
                rw [List.getD_eq_getElem?_getD, List.getElem?_eq_getElem hlt]
                exact has _ (List.getElem_mem hlt)
              have htk : aft.take (k + 1) = aft.take k ++ [aft.getD k E] := by
                rw [List.take_succ_eq_append_getElem hlt, List.getD_eq_getElem?_getD, List.getElem?_eq_getElem hlt]; rfl
              obtain ⟨x, hx⟩ : ∃ x, x = aft.getD k E := ⟨_, rfl⟩
              rw [← hx] at ck2 hks htk
              have hkey := key_of x hks
              have HTK := hide htk
              have hml : m ≤ 8200 := by simp [firsts] at hm; omega
              have i0 : (k : Int) < (aft.length : Int) := by omega
              clear hcs ck ck1 hx htk has hfew hs2
              go_wp2_with (first | (at_mapUpdate; refine wpList_mapUpdate_own _ rfl _ _ _ 28 rfl 9 37 law9 Try.underlying28 (unitElem (H := Unit)) w.heap.size m _ rfl hown (by unfold maxLen; omega) _ _ _ rfl rfl hkey _ [] unitElem_mk ?_; intro w3 hown3 hgrow3))
              go_roundw
              case rel => exact ⟨k + 1, by go_num, by omega, by rw [HTK.out, ← List.append_assoc]; exact setAt_put hm hown3, grown_trans hgr hgrow3⟩
              case measure => simp [intOf]; omega
            · have hfin : SetAt wr w.heap.size (firsts few ++ aft) := by
                rw [List.take_of_length_le (by omega)] at hm hown
                exact ⟨m, hm, hown⟩
              have HFI := hide hfin
              clear hown hfin
              go_wp2_with fail
              go_meet
              case rel => exact ⟨HFI.out, hgr⟩
        case rest =>
          obtain ⟨hs3, hg3⟩ := hcut
          obtain ⟨w3, rfl⟩ : ∃ w3, w3 = wc := ⟨_, rfl⟩
          have hrow3 := hr1.of_block (hg3.block B (by have := hg1.size; omega) hne)
          obtain ⟨_, c8, _, c10, _, _, _, c14⟩ := few_cells few n last v un _ sz kv hrow3
          have f10 := hrow3.free 10
          clear e8 e10 c12 hs2 hg2 hfew haft has
          rcases htell with ⟨rfl, rfl⟩ | ⟨Bk, gk, c, K, rfl, hkept, hK, hKl, rfl, hBk, hgk, hKs⟩
          · have hnf := neq_nilf
            have HROW := hide hrow3
            have HS3 := hide hs3
            clear hrow3 hs3
            go_wp2_with fail
            go_end0
            refine ⟨rfl, ?_, ?_, ?_⟩
            · exact HROW.out.store 10 _ (fun j hj hne => by unfold fld; simp only [hne, if_false]) (by simp [fld])
            · rw [List.append_nil]
              exact HS3.out.of_block (Below.heap_setCell _ _ _ _ (by show w.heap.size ≠ B; omega))
            · exact index_frame hg1 hg3 10 _
          · have hnf := neq_func
            go_wp2_with fail
            go_loopw [6] (fun t wr => ∃ k : Nat, t = .int .i64 k ∧ 8 ≤ k ∧ k ≤ n ∧ SetAt wr w.heap.size (firsts few ++ aft ++ (K.take k).drop 8) ∧ w1.grownBy wr (some w.heap.size)) (fun t _ => n - (intOf t).toNat)
            case atStart => exact ⟨8, rfl, Nat.le_refl _, h8, by rw [List.drop_of_length_le (by simp; omega), List.append_nil]; exact hs3, hg3⟩
            case round =>
              obtain ⟨k, rfl, hk8, hkn, ⟨m, hm, hown⟩, hgr⟩ := hrel
              have hrowr := hr1.of_block (hgr.block B (by have := hg1.size; omega) hne)
              obtain ⟨_, d8, _, d10, _, d12, _, d14⟩ := few_cells few n last v un _ sz _ hrowr
              clear c8 c10 c14 f10 hs3 hg3 hrow3
              by_cases hlt : k < n
              · have hkl : k < K.length := by omega
                have hBkl : Bk < w.heap.size := World.block_lt_of_cell? w _ hkept.1
                have hgkl : gk < w.heap.size := World.block_lt_of_cell? w _ (hkept.2 k hkl)
                have hkr : KeptAt wr Bk gk c K := ⟨hgr.cell (hg1.cell hkept.1 (by simpa using hBk)) (by simp; omega), fun i hi => hgr.cell (hg1.cell (hkept.2 i hi) (by simpa using hgk)) (by simp; omega)⟩
                have hks : (K.getD k E).size ≤ maxLen := by
                  rw [List.getD_eq_getElem?_getD, List.getElem?_eq_getElem hkl]
                  exact hKs _ (List.getElem_mem hkl)
                have htk : (K.take (k + 1)).drop 8 = (K.take k).drop 8 ++ [K.getD k E] := by
                  rw [List.take_succ_eq_append_getElem hkl, List.drop_append_of_le_length (by simp; omega), List.getD_eq_getElem?_getD, List.getElem?_eq_getElem hkl]; rfl
                have hcall := kept_any Bk gk c k K wr.drew hkr hkl hKl
                obtain ⟨x, hx⟩ : ∃ x, x = K.getD k E := ⟨_, rfl⟩
                rw [← hx] at hks htk hcall
                have hml : m ≤ 16400 := by simp [firsts] at hm; omega
                obtain ⟨w4, hrun, hown4, hgrow4⟩ := World.ownsMap.update (w := wr.drew) hown law9 Try.underlying28 (by unfold maxLen; omega) (key_of x hks) (unitElem_mk (H := Unit))
                have g12 : w4.cell? ⟨B, 12, none⟩ = some (.map (some w.heap.size)) := hgrow4.cell (w := wr.drew) d12 hne
                have g14 : w4.cell? ⟨B, 14, none⟩ = some (.func (Fn.func 16) #[] #[.pointer (some ⟨Bk, 0, none⟩)]) := hgrow4.cell (w := wr.drew) d14 hne
                have HTK := hide htk
                have HCALL := hide hcall
                have HG4 := hide (And.intro hown4 hgrow4)
                have HOWN := hide hown
                clear hx htk hcall hown4 hgrow4 hown hkr hkept hKs hrowr
                go_wp2_with fail
                go_region_held3 (fun w' => w'.cell? ⟨B, 12, none⟩ = some (.map (some w.heap.size)) ∧ w'.cell? ⟨B, 14, none⟩ = some (.func (Fn.func 16) #[] #[.pointer (some ⟨Bk, 0, none⟩)])) (simp [go_sem, *])
                  ((go_at_call 16; refine HCALL.out.mono ?_; rintro e w' ⟨rfl, rfl⟩))
                go_wp2_with fail
                go_roundw
                case rel => exact ⟨k + 1, by go_num, by omega, by omega, by rw [HTK.out, ← List.append_assoc]; exact setAt_put hm HG4.out.1, grown_trans hgr (grown_drew HG4.out.2)⟩
                case measure => simp [intOf]; omega
              · obtain rfl : k = n := by omega
                have f10 := hrowr.free 10
                have HROW := hide hrowr
                have HS3 : Hid (SetAt wr w.heap.size (firsts few ++ aft ++ (K.take k).drop 8)) := ⟨m, hm, hown⟩
                clear hrowr hown hkept hKs
                go_wp2_with fail
                go_end0
                refine ⟨rfl, ?_, ?_, ?_⟩
                · exact HROW.out.store 10 _ (fun j hj hne => by unfold fld; simp only [hne, if_false]) (by simp [fld])
                · exact HS3.out.of_block (Below.heap_setCell _ _ _ _ (by show w.heap.size ≠ B; omega))
                · exact index_frame hg1 hgr 10 _
end Go.Proofs.Qxb6604378a
