/-
  THE WALK of glob.ZZstep.
-/
import Derived.Test.Qxb6603747aStep
namespace Go.Proofs.Qxb6603747a
open Go.RowKit

def SubO (n top g : Nat) : Obj := .cells #[.int .i64 0, .int .i64 (n : Int), .int .u64 0, .int .u64 0, .int .u64 0, .int .u64 0, .int .i64 0, .int .i64 0, .int .i64 0, .int .i64 0, .slice none 0 0, .slice none 0 0, .slice (some ⟨g, 0, none⟩) n n, .int .i64 (top : Int), .slice none 0 0] 46

theorem sub_cell (w : World) (n top g k : Nat) (v : Value) (h : (#[Value.int .i64 0, .int .i64 (n : Int), .int .u64 0, .int .u64 0, .int .u64 0, .int .u64 0, .int .i64 0, .int .i64 0, .int .i64 0, .int .i64 0, .slice none 0 0, .slice none 0 0, .slice (some ⟨g, 0, none⟩) n n, .int .i64 (top : Int), .slice none 0 0])[k]? = some v) :
    (w.alloc (SubO n top g)).cell? ⟨w.heap.size, k, none⟩ = some v := by
  have e : (w.alloc (SubO n top g)).heap[w.heap.size]? = some (SubO n top g) := heap_alloc_new w _
  unfold World.cell?
  rw [e]
  exact h
theorem sub_free (w : World) (n top g k : Nat) : (w.alloc (SubO n top g)).frozen? ⟨w.heap.size, k, none⟩ = false := by
  have e : (w.alloc (SubO n top g)).heap[w.heap.size]? = some (SubO n top g) := heap_alloc_new w _
  unfold World.frozen?
  rw [e]
  simp [SubO]

set_option maxRecDepth 100000 in
set_option maxHeartbeats 1000000 in
theorem zzstep_any (g h n m top : Nat) (f q : Nat → Nat) (w : World) (hn : n ≤ 131072) (hm : n ≤ m) (hm' : m ≤ 131072) (ht : top < n) (hgh : g ≠ h)
    (hf : ∀ j, j < n → f j < 2 ^ 64) (hq : ∀ j, j < m → q j < 2 ^ 64) (hr : RowF w g n f) (hs : RowF w h m q) :
    Calls Try.prog 17 #[.int .i64 (n : Int), .slice (some ⟨g, 0, none⟩) n n, .int .i64 (top : Int), .slice (some ⟨h, 0, none⟩) m m] w fun e w' =>
      e = .returned (.tuple #[.int .i64 (topOf (Pl.stp f q (min (top + 1) (n - 1)) (min (top + 1) (n - 1))) top (min (top + 1) (n - 1)) : Nat), .bool ((Pl.liv f q (min (top + 1) (n - 1) + 1) : Int) != 0)]) ∧
      RowF w' g n (Pl.stp f q (min (top + 1) (n - 1))) ∧ w.grownBy w' (some g) := by
  have hg1 := hr.lt
  have hh1 := hs.lt
  have H := step_any w.heap.size g h n m top f q (w.alloc (SubO n top g)) hn hm hm' ht (by omega) hgh hf hq (sub_cell w n top g 1 _ rfl) (sub_cell w n top g 12 _ rfl) (sub_cell w n top g 13 _ rfl) (sub_free w n top g 13)
    (hr.of_block (Below.heap_alloc w _ g hg1)) (hs.of_block (Below.heap_alloc w _ h hh1))
  generalize topOf (Pl.stp f q (min (top + 1) (n - 1)) (min (top + 1) (n - 1))) top (min (top + 1) (n - 1)) = tt at H ⊢
  generalize ((Pl.liv f q (min (top + 1) (n - 1) + 1) : Int) != 0) = lv at H ⊢
  generalize Pl.stp f q (min (top + 1) (n - 1)) = f' at H ⊢
  have HC := hid H
  clear hr hs hf hq H
  go_enter Try.func17, Try.ntmps17
  go_wp2_with fail
  refine HC.out.mono ?_
  rintro e w1 ⟨rfl, hr1, c13, hz, ho1, ho2, ho3, hb⟩
  have HH := hid (And.intro hr1 (And.intro hz (And.intro ho1 (And.intro ho2 (And.intro ho3 hb)))))
  clear hr1 hz ho1 ho2 ho3 hb HC
  go_wp2_with fail
  go_ret2
  obtain ⟨hr1, hz, ho1, ho2, ho3, hb⟩ := HH.out
  refine ⟨rfl, hr1, ho1, ho2, ho3, by rw [hz]; simp, fun k hk hne => ?_⟩
  rw [hb k (by simpa using hne) (by omega), Below.heap_alloc w _ k hk]
end Go.Proofs.Qxb6603747a
