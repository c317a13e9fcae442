/-
  THE WALK of (*Subject).step.
-/
import Derived.Test.Qxb6603747aRowF
import Derived.Deep.DeepCutAuto
import Derived.BigQuiet
namespace Go.Proofs.Qxb6603747a
open Go.RowKit

/-- The words below k have been stepped. -/
def upK (f q : Nat → Nat) (k : Nat) : Nat → Nat := fun j => if j < k then Pl.new f q j else f j

/-- The new top. -/
def topOf (x top last : Nat) : Nat := if x = 0 then top else last
theorem topOf_no {x top last : Nat} (h : x = 0) : topOf x top last = top := if_pos h
theorem topOf_yes {x top last : Nat} (h : ¬ x = 0) : topOf x top last = last := if_neg h

theorem upK_at (f q : Nat → Nat) (k : Nat) : upK f q k k = f k := by simp [upK]
theorem and_now (f q : Nat → Nat) (k : Nat) (h1 : f k < 2 ^ 64) (h2 : q k < 2 ^ 64) : bits .and .u64 (upK f q k k : Nat) (q k : Nat) = (Pl.now f q k : Nat) := by
  rw [upK_at]; exact u64_and_nat _ _ h1 h2
theorem car_now (f q : Nat → Nat) (k : Nat) : (Pl.now f q k : Int) / 9223372036854775808 = (Pl.car f q (k + 1) : Nat) := by
  show _ = ((Pl.now f q k / 2 ^ 63 : Nat) : Int)
  omega
theorem or_new (f q : Nat → Nat) (k n : Nat) (hk : k ≤ n) (h : ∀ j, j < n → f j < 2 ^ 64) : bits .or .u64 (IntKind.u64.wrap ((Pl.now f q k : Int) * 2)) (Pl.car f q k : Nat) = (Pl.new f q k : Nat) := by
  have e : IntKind.u64.wrap ((Pl.now f q k : Int) * 2) = ((Pl.now f q k * 2 % 2 ^ 64 : Nat) : Int) := by
    rw [IntKind.wrap_u64]; omega
  have h1 := Pl.car_lt f q k n hk h
  rw [e, u64_or_nat _ _ (Nat.mod_lt _ (by decide)) (by omega)]
  rfl
theorem or_liv (f q : Nat → Nat) (k n : Nat) (hk : k ≤ n) (h : ∀ j, j < n → f j < 2 ^ 64) : bits .or .u64 (Pl.liv f q k : Nat) (Pl.new f q k : Nat) = (Pl.liv f q (k + 1) : Nat) := by
  rw [u64_or_nat _ _ (Pl.liv_lt f q k n (by omega) h) (Pl.new_lt f q k n hk h)]
  rfl
theorem upK_else (f q : Nat → Nat) (k j : Nat) (h : j ≠ k) : upK f q (k + 1) j = upK f q k j := by
  simp only [upK]; split <;> split <;> first | rfl | omega
theorem upK_next (f q : Nat → Nat) (k : Nat) : upK f q (k + 1) k = Pl.new f q k := by simp [upK]
theorem upK_stp (f q : Nat → Nat) (last j : Nat) : upK f q (last + 1) j = Pl.stp f q last j := by
  simp only [upK, Pl.stp]; split <;> split <;> first | rfl | omega
theorem grown_put {w wr : World} {g : Nat} (h : w.grownBy wr (some g)) (k : Nat) (v : Value) : w.grownBy (wr.setCell ⟨g, k, none⟩ v) (some g) :=
  ⟨h.os, h.tape, h.output, by simpa [World.setCell] using h.size, fun b hb hne => by rw [Below.heap_setCell _ _ _ _ (fun e => hne (by rw [e]))]; exact h.block b hb hne⟩
theorem grown_all {w wr : World} {g : Nat} (h : w.grownBy wr (some g)) (hz : wr.heap.size = w.heap.size) (b : Nat) (hb : b ≠ g) : wr.heap[b]? = w.heap[b]? := by
  by_cases hlt : b < w.heap.size
  · exact h.block b hlt (by simpa using hb)
  · rw [Array.getElem?_eq_none (by omega), Array.getElem?_eq_none (by omega)]

set_option maxRecDepth 100000 in
set_option maxHeartbeats 1000000 in
theorem step_any (B g h n m top : Nat) (f q : Nat → Nat) (w : World) (hn : n ≤ 131072) (hm : n ≤ m) (hm' : m ≤ 131072) (ht : top < n) (hBg : B ≠ g) (hgh : g ≠ h)
    (hf : ∀ j, j < n → f j < 2 ^ 64) (hq : ∀ j, j < m → q j < 2 ^ 64)
    (c1 : w.cell? ⟨B, 1, none⟩ = some (.int .i64 (n : Int))) (c12 : w.cell? ⟨B, 12, none⟩ = some (.slice (some ⟨g, 0, none⟩) n n)) (c13 : w.cell? ⟨B, 13, none⟩ = some (.int .i64 (top : Int))) (f13 : w.frozen? ⟨B, 13, none⟩ = false)
    (hr : RowF w g n f) (hs : RowF w h m q) :
    Calls Try.prog 21 #[.pointer (some ⟨B, 0, none⟩), .slice (some ⟨h, 0, none⟩) m m] w fun e w' =>
      e = .returned (.bool ((Pl.liv f q (min (top + 1) (n - 1) + 1) : Int) != 0)) ∧ RowF w' g n (Pl.stp f q (min (top + 1) (n - 1))) ∧
      w'.cell? ⟨B, 13, none⟩ = some (.int .i64 (topOf (Pl.stp f q (min (top + 1) (n - 1)) (min (top + 1) (n - 1))) top (min (top + 1) (n - 1)) : Int)) ∧
      w'.heap.size = w.heap.size ∧ w'.os = w.os ∧ w'.tape = w.tape ∧ w'.output = w.output ∧ ∀ b, b ≠ g → b ≠ B → w'.heap[b]? = w.heap[b]? := by
  obtain ⟨last, hl⟩ : ∃ last, last = min (top + 1) (n - 1) := ⟨_, rfl⟩
  rw [← hl]
  have hl1 : last < n := by omega
  have HL := hid hl
  have HR := hid hr
  have HS := hid hs
  have HF := hid hf
  have HQ := hid hq
  clear hl hr hs hf hq
  go_enter Try.func21, Try.ntmps21
  go_upto_region 1 with fail
  go_cut [5] (fun v wx => v = .int .i64 (last : Nat) ∧ wx = w.drew)
  case first =>
    by_cases hc : top + 1 ≤ n - 1
    · have HE := hid (show last = top + 1 by rw [HL.out]; omega)
      go_region
      all_goals
        go_wp2
        go_meet
        case rel => exact ⟨by rw [HE.out]; go_num, rfl⟩
    · have HE := hid (show last = n - 1 by rw [HL.out]; omega)
      go_region
      all_goals
        go_wp2
        go_meet
        case rel => exact ⟨by rw [HE.out]; go_num, rfl⟩
  case rest =>
    obtain ⟨rfl, rfl⟩ := hcut
    go_wp2
    go_loopw [6, 7, 29] (fun cy lv ix wr => ∃ k : Nat, ix = .int .i64 k ∧ k ≤ last + 1 ∧ cy = .int .u64 (Pl.car f q k : Nat) ∧ lv = .int .u64 (Pl.liv f q k : Nat) ∧ RowF wr g n (upK f q k) ∧ Hid (w.grownBy wr (some g)) ∧ Hid (wr.heap.size = w.heap.size)) (fun _ _ ix _ => last + 1 - (intOf ix).toNat)
    case atStart => exact ⟨0, rfl, Nat.zero_le _, rfl, rfl, HR.out.congr (fun j _ => by simp [upK]), ⟨rfl, rfl, rfl, Nat.le_refl _, fun _ _ _ => rfl⟩, rfl⟩
    case round =>
      obtain ⟨k, rfl, hk, rfl, rfl, hr, HG, HZ⟩ := hrel
      have d1 : wr.cell? ⟨B, 1, none⟩ = some (.int .i64 (n : Int)) := HG.out.cell c1 (by simpa using hBg)
      have d12 : wr.cell? ⟨B, 12, none⟩ = some (.slice (some ⟨g, 0, none⟩) n n) := HG.out.cell c12 (by simpa using hBg)
      have d13 : wr.cell? ⟨B, 13, none⟩ = some (.int .i64 (top : Int)) := HG.out.cell c13 (by simpa using hBg)
      by_cases hlt : k < last + 1
      · have hkn : k < n := by omega
        have hkm : k < m := by omega
        have e1 := hr.cell k hkn
        have e2 := hr.free k
        have e3 : wr.cell? ⟨h, k, none⟩ = some (.int .u64 (q k : Nat)) := HG.out.cell (HS.out.cell k hkm) (by simpa using fun e => hgh e.symm)
        clear c1 c12 c13 f13
        have HRR := hid hr
        clear hr
        go_wp2
        go_roundw
        case rel =>
          have n1 := and_now f q k (HF.out k hkn) (HQ.out k hkm)
          have n2 := or_new f q k n (by omega) HF.out
          refine ⟨k + 1, by go_num, by omega, ?_, ?_, ?_, grown_put HG.out k _, ?_⟩
          · rw [n1, car_now]
          · rw [n1, n2, or_liv f q k n (by omega) HF.out]
          · rw [n1, n2]
            exact HRR.out.store k (fun j _ hj => upK_else f q k j hj) _ (by rw [upK_next])
          · show _ = _
            rw [← HZ.out]
            simp [World.setCell]
        case measure => simp [intOf]; omega
      · obtain rfl : k = last + 1 := by omega
        have hrs := hr.congr (fun j _ => upK_stp f q last j)
        have e1 := hrs.cell last hl1
        have g13 : wr.frozen? ⟨B, 13, none⟩ = false := (World.frozen?_of_block (a := ⟨B, 13, none⟩) (grown_all HG.out HZ.out B hBg)).trans f13
        have HK := hid (fun b (hb : b ≠ g) => grown_all HG.out HZ.out b hb)
        have HRR := hid hrs
        clear c1 c12 c13 f13 hr hrs d1
        by_cases hz : Pl.stp f q last last = 0
        · have hb0 : ((Pl.stp f q last last : Int) != 0) = false := by rw [bne_eq_false_iff_eq]; omega
          have HZ0 := hid hz
          clear hz
          go_wp2
          go_ret
          refine ⟨rfl, HRR.out, ?_, HZ.out, HG.out.os, HG.out.tape, HG.out.output, fun b h1 h2 => HK.out b h1⟩
          rw [topOf_no HZ0.out]; exact d13
        · have hb0 : ((Pl.stp f q last last : Int) != 0) = true := by rw [bne_iff_ne]; omega
          have HZ0 := hid hz
          clear hz
          go_wp2
          go_ret
          refine ⟨rfl, HRR.out.other (a := ⟨B, 13, none⟩) (fun e => hBg e.symm) _, ?_, ?_, HG.out.os, HG.out.tape, HG.out.output, fun b h1 h2 => ?_⟩
          · rw [topOf_yes HZ0.out]; exact World.cell?_setCell_same _ _ _ d13
          · simp [World.setCell, HZ.out]
          · rw [Below.heap_setCell _ _ _ _ h2]; exact HK.out b h1
end Go.Proofs.Qxb6603747a
