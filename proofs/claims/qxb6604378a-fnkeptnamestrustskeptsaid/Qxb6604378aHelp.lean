/-
  THE WALKS of the laws' helpers: the bound on lengths, stringsBytes, firstSeen.
-/
import Derived.Test.Qxb6604378aMake
namespace Go.Proofs.Qxb6604378a
open Go.RowKit Go.Maps
set_option linter.unusedVariables false
set_option linter.unusedSimpArgs false

/-- The names that came in: if there is one, they lie in a block of old. -/
def Arg (w : World) (a : Option Addr) (len : Nat) (ns : Nat → ByteArray) : Prop :=
  0 < len → ∃ b off, a = some ⟨b, off, none⟩ ∧ b < w.heap.size ∧ ∀ i, i < len → w.cell? ⟨b, off + i, none⟩ = some (.string (ns i))

theorem Arg.below {w w' : World} {a : Option Addr} {len : Nat} {ns : Nat → ByteArray} (h : Arg w a len ns) (hb : Below w.heap.size w w') : Arg w' a len ns := by
  intro h0
  obtain ⟨b, off, e, hlt, hc⟩ := h h0
  exact ⟨b, off, e, Nat.lt_of_lt_of_le hlt hb.size, fun i hi => (hb.cell (p := ⟨b, off + i, none⟩) hlt).trans (hc i hi)⟩

def ZzPost (len : Nat) (ns : Nat → ByteArray) (w : World) (e : Ending) (w' : World) : Prop :=
  ∃ b, e = .returned (.bool b) ∧ w = w' ∧ (b = true → len ≤ 1048576 ∧ ∀ i, i < len → (ns i).size ≤ 1048576)

set_option maxRecDepth 100000 in
set_option maxHeartbeats 1000000 in
theorem zz6 (z : Int) (a : Option Addr) (len cap : Nat) (ns : Nat → ByteArray) (w : World) (hl : len ≤ maxLen) (hA : Arg w a len ns) (hn : ∀ i, (ns i).size ≤ maxLen) :
    Calls Try.prog 6 #[.int .i64 z, .slice a len cap] w fun e w' => ZzPost len ns w e w' := by
  have HA := hide hA
  have HN := hide hn
  clear hA hn
  unfold maxLen at hl
  by_cases h0 : 1048576 < len
  · go_enter Try.func6, Try.ntmps6
    go_wp2_with fail
    go_ret
    exact ⟨false, rfl, rfl, fun h => by cases h⟩
  go_enter Try.func6, Try.ntmps6
  go_wp2_with fail
  go_loop [5, 6] (fun s t => ∃ k m : Nat, t = .int .i64 k ∧ s = .int .i64 m ∧ k ≤ len ∧ m ≤ 1048576 ∧ Hid (∀ i, i < k → (ns i).size ≤ 1048576)) (fun _ t => len - (intOf t).toNat)
  case atStart => exact ⟨0, len, rfl, rfl, Nat.zero_le _, by omega, fun i hi => by omega⟩
  case round =>
    obtain ⟨k, m, rfl, rfl, hk, hm, HJ⟩ := hrel
    by_cases hlt : k < len
    · obtain ⟨b, off, rfl, hb, hcs⟩ := HA.out (by omega)
      have ck := hcs k hlt
      clear hcs
      have hnk := HN.out k
      unfold maxLen at hnk
      by_cases h1 : 1048576 < (ns k).size
      · go_wp2_with fail
        go_ret
        exact ⟨false, rfl, rfl, fun h => by cases h⟩
      by_cases h2 : 1048576 < m + (ns k).size
      · go_wp2_with fail
        go_ret
        exact ⟨false, rfl, rfl, fun h => by cases h⟩
      · go_wp2_with fail
        go_round
        case rel => exact ⟨k + 1, m + (ns k).size, by go_num, by go_num, by omega, by omega, fun i hi => by
          by_cases e : i = k
          · rw [e]; omega
          · exact HJ.out i (by omega)⟩
        case measure => simp [intOf]; omega
    · obtain rfl : k = len := by omega
      go_wp2_with fail
      go_ret
      exact ⟨true, rfl, rfl, fun _ => ⟨by omega, HJ.out⟩⟩

set_option maxRecDepth 100000 in
set_option maxHeartbeats 1000000 in
theorem zz11 (z : Int) (a : Option Addr) (len cap : Nat) (ns : Nat → ByteArray) (w : World) (hl : len ≤ maxLen) (hA : Arg w a len ns) (hn : ∀ i, (ns i).size ≤ maxLen) :
    Calls Try.prog 11 #[.int .i64 z, .slice a len cap] w fun e w' => ZzPost len ns w e w' := by
  have HA := hide hA
  have HN := hide hn
  clear hA hn
  unfold maxLen at hl
  by_cases h0 : 1048576 < len
  · go_enter Try.func11, Try.ntmps11
    go_wp2_with fail
    go_ret
    exact ⟨false, rfl, rfl, fun h => by cases h⟩
  go_enter Try.func11, Try.ntmps11
  go_wp2_with fail
  go_loop [5, 6] (fun s t => ∃ k m : Nat, t = .int .i64 k ∧ s = .int .i64 m ∧ k ≤ len ∧ m ≤ 1048576 ∧ Hid (∀ i, i < k → (ns i).size ≤ 1048576)) (fun _ t => len - (intOf t).toNat)
  case atStart => exact ⟨0, len, rfl, rfl, Nat.zero_le _, by omega, fun i hi => by omega⟩
  case round =>
    obtain ⟨k, m, rfl, rfl, hk, hm, HJ⟩ := hrel
    by_cases hlt : k < len
    · obtain ⟨b, off, rfl, hb, hcs⟩ := HA.out (by omega)
      have ck := hcs k hlt
      clear hcs
      have hnk := HN.out k
      unfold maxLen at hnk
      by_cases h1 : 1048576 < (ns k).size
      · go_wp2_with fail
        go_ret
        exact ⟨false, rfl, rfl, fun h => by cases h⟩
      by_cases h2 : 1048576 < m + (ns k).size
      · go_wp2_with fail
        go_ret
        exact ⟨false, rfl, rfl, fun h => by cases h⟩
      · go_wp2_with fail
        go_round
        case rel => exact ⟨k + 1, m + (ns k).size, by go_num, by go_num, by omega, by omega, fun i hi => by
          by_cases e : i = k
          · rw [e]; omega
          · exact HJ.out i (by omega)⟩
        case measure => simp [intOf]; omega
    · obtain rfl : k = len := by omega
      go_wp2_with fail
      go_ret
      exact ⟨true, rfl, rfl, fun _ => ⟨by omega, HJ.out⟩⟩

set_option maxRecDepth 100000 in
set_option maxHeartbeats 1000000 in
theorem zz13 (z : Int) (a : Option Addr) (len cap : Nat) (ns : Nat → ByteArray) (w : World) (hl : len ≤ maxLen) (hA : Arg w a len ns) (hn : ∀ i, (ns i).size ≤ maxLen) :
    Calls Try.prog 13 #[.int .i64 z, .slice a len cap] w fun e w' => ZzPost len ns w e w' := by
  have HA := hide hA
  have HN := hide hn
  clear hA hn
  unfold maxLen at hl
  by_cases h0 : 1048576 < len
  · go_enter Try.func13, Try.ntmps13
    go_wp2_with fail
    go_ret
    exact ⟨false, rfl, rfl, fun h => by cases h⟩
  go_enter Try.func13, Try.ntmps13
  go_wp2_with fail
  go_loop [5, 6] (fun s t => ∃ k m : Nat, t = .int .i64 k ∧ s = .int .i64 m ∧ k ≤ len ∧ m ≤ 1048576 ∧ Hid (∀ i, i < k → (ns i).size ≤ 1048576)) (fun _ t => len - (intOf t).toNat)
  case atStart => exact ⟨0, len, rfl, rfl, Nat.zero_le _, by omega, fun i hi => by omega⟩
  case round =>
    obtain ⟨k, m, rfl, rfl, hk, hm, HJ⟩ := hrel
    by_cases hlt : k < len
    · obtain ⟨b, off, rfl, hb, hcs⟩ := HA.out (by omega)
      have ck := hcs k hlt
      clear hcs
      have hnk := HN.out k
      unfold maxLen at hnk
      by_cases h1 : 1048576 < (ns k).size
      · go_wp2_with fail
        go_ret
        exact ⟨false, rfl, rfl, fun h => by cases h⟩
      by_cases h2 : 1048576 < m + (ns k).size
      · go_wp2_with fail
        go_ret
        exact ⟨false, rfl, rfl, fun h => by cases h⟩
      · go_wp2_with fail
        go_round
        case rel => exact ⟨k + 1, m + (ns k).size, by go_num, by go_num, by omega, by omega, fun i hi => by
          by_cases e : i = k
          · rw [e]; omega
          · exact HJ.out i (by omega)⟩
        case measure => simp [intOf]; omega
    · obtain rfl : k = len := by omega
      go_wp2_with fail
      go_ret
      exact ⟨true, rfl, rfl, fun _ => ⟨by omega, HJ.out⟩⟩

def SbPost (w : World) (e : Ending) (w' : World) : Prop := ∃ n : Nat, e = .returned (.int .i64 n) ∧ w = w'

set_option maxRecDepth 100000 in
set_option maxHeartbeats 1000000 in
theorem bytes_any (a : Option Addr) (len cap : Nat) (ns : Nat → ByteArray) (w : World) (hl : len ≤ 4096) (hA : Arg w a len ns) (hn : ∀ i, i < len → (ns i).size ≤ 1048576) :
    Calls Try.prog 7 #[.slice a len cap] w fun e w' => SbPost w e w' := by
  have HA := hide hA
  have HN := hide hn
  clear hA hn
  go_enter Try.func7, Try.ntmps7
  go_wp2_with fail
  go_loop [3, 4] (fun s t => ∃ k m : Nat, t = .int .i64 k ∧ s = .int .i64 m ∧ k ≤ len ∧ m ≤ k * 1048592) (fun _ t => len - (intOf t).toNat)
  case atStart => exact ⟨0, 0, rfl, rfl, Nat.zero_le _, by omega⟩
  case round =>
    obtain ⟨k, m, rfl, rfl, hk, hm⟩ := hrel
    by_cases hlt : k < len
    · obtain ⟨b, off, rfl, hb, hcs⟩ := HA.out (by omega)
      have ck := hcs k hlt
      clear hcs
      have hnk := HN.out k hlt
      go_wp2_with fail
      go_round
      case rel => exact ⟨k + 1, m + (16 + (ns k).size), by go_num, by go_num, by omega, by omega⟩
      case measure => simp [intOf]; omega
    · obtain rfl : k = len := by omega
      go_wp2_with fail
      go_ret
      exact ⟨m, rfl, rfl⟩

theorem info4 : (Try.prog.info? 4).map (fun i => (i.zero, i.size, i.bytes)) = some (some (.bool false), 1, 1) := by kernel_rfl

/-- What make has laid. -/
theorem made_row {w : World} {base T g n : Nat} {v z : Value} (h : w.ownsRow base T 1 v n (madeCells #[z] n).toList) (hv : v = .slice (some ⟨g, 0, none⟩) n n) : RowV w g T n (fun _ => z) := by
  obtain ⟨h1, h2⟩ := h
  subst hv
  rcases h2 with ⟨h2, _⟩ | ⟨g', cap, cur, hv, _, hh, _, _, hs, ht⟩
  · cases h2
  · cases hv
    refine ⟨cur, hh, by omega, fun j hj => ?_⟩
    have e : cur.toList = (madeCells #[z] n).toList := by
      rw [← ht, List.take_of_length_le (by simp; omega)]
    have e2 : cur[j]? = (madeCells #[z] n)[j]? := by
      rw [← Array.getElem?_toList, e, Array.getElem?_toList]
    rw [e2]
    have e3 : j % 1 = 0 := Nat.mod_one j
    simp [madeCells, hj, e3]

/-- Is the i-th name new? -/
def nw (ns : Nat → ByteArray) (i : Nat) : Bool := !inFew ns i (ns i)
/-- The row of answers, made up to k. -/
def upK (ns : Nat → ByteArray) (k : Nat) : Nat → Value := fun j => .bool (if j < k then nw ns j else false)

/-- Nothing but a draw. -/
structure Quiet (w w' : World) : Prop where
  heap : w'.heap = w.heap
  os : w'.os = w.os
  tape : w'.tape = w.tape
  output : w'.output = w.output
theorem Quiet.cell {w w' : World} (h : Quiet w w') (a : Addr) : w'.cell? a = w.cell? a := by unfold World.cell?; rw [h.heap]
theorem Quiet.frozen {w w' : World} (h : Quiet w w') (a : Addr) : w'.frozen? a = w.frozen? a := by unfold World.frozen?; rw [h.heap]
theorem Quiet.drew {w w' : World} (h : Quiet w w') (n : Nat) : Quiet w (w'.drewN n) := ⟨h.heap, h.os, h.tape, h.output⟩
theorem Quiet.below {w w' : World} (h : Quiet w w') (B : Nat) : Below B w w' := ⟨h.os, h.tape, h.output, by rw [h.heap]; exact Nat.le_refl _, fun k _ => by rw [h.heap]⟩

theorem up_store {wr wx : World} {g len k : Nat} {ns : Nat → ByteArray} (hr : RowV wr g 4 len (upK ns k)) (hq : Quiet wr wx) (b : Bool) (hb : nw ns k = b) : RowV (wx.setCell ⟨g, k, none⟩ (.bool b)) g 4 len (upK ns (k + 1)) :=
  (hr.of_block (by rw [hq.heap])).store k (.bool b) (fun j _ hj => by simp only [upK]; congr 1; by_cases h : j < k <;> simp [h] <;> omega) (by simp [upK, hb])

set_option maxRecDepth 100000 in
set_option maxHeartbeats 1000000 in
theorem first_any (a : Option Addr) (len cap : Nat) (ns : Nat → ByteArray) (w : World) (hl : len ≤ 4096) (hA : Arg w a len ns) :
    Calls Try.prog 8 #[.slice a len cap] w fun e w' => e = .returned (.slice (some ⟨w.heap.size, 0, none⟩) len len) ∧ RowV w' w.heap.size 4 len (fun i => .bool (nw ns i)) ∧ Below w.heap.size w w' := by
  obtain ⟨i0, hi, hz0, hz1, hz2⟩ := info_parts info4
  have HA := hide hA
  clear hA
  go_enter Try.func8, Try.ntmps8
  go_wp2_with (at_make; refine wpList_make_full _ rfl _ _ 25 rfl w.heap.size 4 i0 (.bool false) 1 Try.underlying25 hi hz0 hz1 _ _ _ _ len rfl rfl rfl rfl ?b2 ?b3 (Nat.le_refl _) ?_)
  case b2 => rw [hz2]; omega
  case b3 => unfold maxLen; omega
  intro w0 hown0 hgrow0
  have hr0 := made_row hown0 rfl
  have hbl0 : Below w.heap.size w w0 := (Below.refl _ _).grown hgrow0 (Nat.le_refl _) (fun k h => by cases h)
  clear hown0 hgrow0 hi hz0 hz1 hz2
  go_wp2_with fail
  go_loopw [4] (fun t wr => ∃ k : Nat, t = .int .i64 k ∧ k ≤ len ∧ RowV wr w.heap.size 4 len (upK ns k) ∧ Below w.heap.size w wr) (fun t _ => len - (intOf t).toNat)
  case atStart => exact ⟨0, rfl, Nat.zero_le _, hr0.congr (fun j _ => by simp [upK]), hbl0⟩
  case round =>
    obtain ⟨k, rfl, hk, hr, hbl⟩ := hrel
    obtain ⟨w2, rfl⟩ : ∃ w2, w2 = wr := ⟨_, rfl⟩
    by_cases hlt : k < len
    · obtain ⟨b, off, rfl, hb, hcs0⟩ := HA.out (by omega)
      have hcs : ∀ i, i < len → w2.cell? ⟨b, off + i, none⟩ = some (.string (ns i)) := fun i hi => (hbl.cell (p := ⟨b, off + i, none⟩) hb).trans (hcs0 i hi)
      have HCS := hide hcs
      clear hcs hcs0
      have ck := HCS.out k hlt
      have c2 := hr.cell k hlt
      have f2 := hr.free k
      have HR := hide hr
      have HBL := hide hbl
      have i0 : (k : Int) < (len : Int) := by omega
      clear hr hbl
      go_wp2_with fail
      go_loopw [5, 6] (fun fr t wx => fr = .bool true ∧ ∃ m : Nat, t = .int .i64 m ∧ m ≤ k ∧ Quiet w2 wx ∧ Hid (∀ i, i < m → ((ns i).toList == (ns k).toList) = false)) (fun _ t _ => k - (intOf t).toNat)
      case atStart => exact ⟨rfl, 0, rfl, Nat.zero_le _, ⟨rfl, rfl, rfl, rfl⟩, fun i hi => by omega⟩
      case round =>
        obtain ⟨rfl, m, rfl, hm, hq, HJ⟩ := hrel
        have ck1 := (hq.cell ⟨b, off + k, none⟩).trans ck
        have ck2 := (hq.cell ⟨w.heap.size, k, none⟩).trans c2
        have fk2 := (hq.frozen ⟨w.heap.size, k, none⟩).trans f2
        by_cases hlt2 : m < k
        · have i1 : (m : Int) < (k : Int) := by omega
          have i2 : (m : Int) < (len : Int) := by omega
          have cm := (hq.cell ⟨b, off + m, none⟩).trans (HCS.out m (by omega))
          by_cases he : ((ns m).toList == (ns k).toList) = true
          · have hy : nw ns k = false := by unfold nw; rw [inFew_yes m hlt2 he]; rfl
            have HQ := hide hq
            clear hq
            go_wp2_with fail
            go_quiet (fail)
            go_wp2_with fail
            go_roundw
            case rel => exact ⟨k + 1, by go_num, by omega, up_store HR.out (HQ.out.drew _) _ hy, (HBL.out.trans ((HQ.out.drew _).below _)).setCell (p := ⟨w.heap.size, k, none⟩) (Nat.le_refl _) _⟩
            case measure => simp [intOf]; omega
          · have he' : ((ns m).toList == (ns k).toList) = false := by simpa using he
            clear he
            have HE := hide he'
            have HQ := hide hq
            clear hq
            go_wp2_with fail
            go_quiet (fail)
            go_wp2_with fail
            go_roundw
            case rel => exact ⟨rfl, m + 1, by go_num, by omega, HQ.out.drew _, fun i hi => by
              by_cases e : i = m
              · rw [e]; exact HE.out
              · exact HJ.out i (by omega)⟩
            case measure => simp [intOf]; omega
        · obtain rfl : m = k := by omega
          have hy : nw ns m = true := by unfold nw; rw [inFew_no (fun i hi => HJ.out i hi)]; rfl
          have HQ := hide hq
          clear hq
          go_wp2_with fail
          go_roundw
          case rel => exact ⟨m + 1, by go_num, by omega, up_store HR.out HQ.out _ hy, (HBL.out.trans (HQ.out.below _)).setCell (p := ⟨w.heap.size, m, none⟩) (Nat.le_refl _) _⟩
          case measure => simp [intOf]; omega
    · go_wp2_with fail
      go_ret
      exact ⟨rfl, hr.congr (fun j hj => by simp [upK]; omega), hbl⟩
end Go.Proofs.Qxb6604378a
