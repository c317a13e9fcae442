/-
  THE WALKS of KeptNames and ZZKeptNamesFrom.
-/
import Derived.Test.Qxb6604378aNames
import Derived.Laws.EntriesVeiled
import Derived.Deep.MidRow
namespace Go.Proofs.Qxb6604378a
open Go.RowKit Go.Maps
set_option linter.unusedVariables false
set_option linter.unusedSimpArgs false

/-- The cells of a new set. -/
def fresh (sz : Nat) (kv : Value) : Array Value := #[.string ⟨#[]⟩, .string ⟨#[]⟩, .string ⟨#[]⟩, .string ⟨#[]⟩, .string ⟨#[]⟩, .string ⟨#[]⟩, .string ⟨#[]⟩, .string ⟨#[]⟩, .int .i64 0, .string ⟨#[]⟩, .slice none 0 0, .bool false, .map none, .int .i64 (sz : Int), kv]

theorem fresh_cell (sz : Nat) (kv : Value) (j : Nat) (hj : j < 15) : (fresh sz kv)[j]? = some (fld (fun _ => E) 0 E (.slice none 0 0) false (.map none) sz kv j) := by
  match j, hj with
  | 0, _ => rfl
  | 1, _ => rfl
  | 2, _ => rfl
  | 3, _ => rfl
  | 4, _ => rfl
  | 5, _ => rfl
  | 6, _ => rfl
  | 7, _ => rfl
  | 8, _ => rfl
  | 9, _ => rfl
  | 10, _ => rfl
  | 11, _ => rfl
  | 12, _ => rfl
  | 13, _ => rfl
  | 14, _ => rfl

theorem fresh_inv {w : World} {B sz : Nat} {kv : Value} (kp : Option (List ByteArray)) (h : w.heap[B]? = some (.cells (fresh sz kv) 31 (0, 0))) : Inv w B sz kv kp [] (.inl ([], false)) := by
  have ea : aftOf kp [] = [] := by cases kp <;> rfl
  refine ⟨by simp, none, 0, ?_, ?_, ?_, ?_⟩
  · rw [ea]
    exact ⟨fresh sz kv, h, rfl, fun j hj => fresh_cell sz kv j hj⟩
  · rw [ea]; exact World.ownsRow_nil _ _ _ _
  · rw [ea]; simp [Value.ownBlock]
  · rw [ea]; rfl

set_option maxRecDepth 100000 in
set_option maxHeartbeats 1000000 in
theorem keptNames_nil (sz : Nat) (w : World) : Calls Try.prog 9 #[.int .i64 (sz : Int), .nilFunc] w fun e w' => e = .returned (.agg (fresh sz .nilFunc)) ∧ Below w.heap.size w w' := by
  go_enter Try.func9, Try.ntmps9
  go_wp2_with fail
  exact bodyPost_ret (v := .agg (fresh sz .nilFunc)) (results_cell_row Try.results9 _ _ w.heap.size 31 (fresh sz .nilFunc) _ _ rfl (heap_alloc_new w _) Try.underlying31 rfl (by kernel_rfl)) rfl ⟨rfl, (Below.refl _ _).alloc (Nat.le_refl _) _⟩

set_option maxRecDepth 100000 in
set_option maxHeartbeats 1000000 in
theorem keptNames_func (sz Bk : Nat) (w : World) : Calls Try.prog 9 #[.int .i64 (sz : Int), .func (Fn.func 16) #[] #[.pointer (some ⟨Bk, 0, none⟩)]] w fun e w' => e = .returned (.agg (fresh sz (.func (Fn.func 16) #[] #[.pointer (some ⟨Bk, 0, none⟩)]))) ∧ Below w.heap.size w w' := by
  go_enter Try.func9, Try.ntmps9
  go_wp2_with fail
  exact bodyPost_ret (v := .agg (fresh sz (.func (Fn.func 16) #[] #[.pointer (some ⟨Bk, 0, none⟩)]))) (results_cell_row Try.results9 _ _ w.heap.size 31 (fresh sz (.func (Fn.func 16) #[] #[.pointer (some ⟨Bk, 0, none⟩)])) _ _ rfl (heap_alloc_new w _) Try.underlying31 rfl (by kernel_rfl)) rfl ⟨rfl, (Below.refl _ _).alloc (Nat.le_refl _) _⟩

theorem info31 : (Try.prog.info? 31).map (·.size) = some 15 := by kernel_rfl

/-- A block of a set can be stored over whole. -/
theorem there31 {w : World} {g : Nat} {cs : Array Value} (h : w.heap[g]? = some (.cells cs 31 (0, 0))) (hs : cs.size = 15) : w.there g 0 15 := by
  intro j hj
  rw [Nat.zero_add, cell_of_row w g j cs 31 _ h, frozen_of_row w g j cs 31 h]
  simp [hs, hj]

theorem fresh_one (sz Bk : Nat) : (fresh sz (.func (Fn.func 16) #[] #[.pointer (some ⟨Bk, 0, none⟩)])).all (·.oneCell') = true := by simp [fresh, Value.oneCell']
theorem fresh_one_nil (sz : Nat) : (fresh sz .nilFunc).all (·.oneCell') = true := by simp [fresh, Value.oneCell']

/-- The whole block behind such a store. -/
theorem setCells_row {w : World} {g : Nat} : ∀ (vs : List Value) (o : Nat) (w : World) (cs : Array Value), w.heap[g]? = some (.cells cs 31 (0, 0)) → ∃ cs', (w.setCells g o vs).heap[g]? = some (.cells cs' 31 (0, 0)) ∧ cs'.size = cs.size
  | [], _, _, cs, h => ⟨cs, h, rfl⟩
  | v :: vs, o, w, cs, h => by
    obtain ⟨cs', h1, h2⟩ := setCells_row (w := w) vs (o + 1) (w.setCell ⟨g, o, none⟩ v) _ (heap_put h o v)
    exact ⟨cs', h1, by rw [h2]; simp⟩

theorem stored_row {w : World} {g : Nat} {cs : Array Value} (h : w.heap[g]? = some (.cells cs 31 (0, 0))) (hs : cs.size = 15) (new : Array Value) (hn : new.size = 15) : (w.setCells g 0 new.toList).heap[g]? = some (.cells new 31 (0, 0)) := by
  obtain ⟨cs', h1, h2⟩ := setCells_row (w := w) new.toList 0 w cs h
  have hr := World.rangeAt_setCells_same w g 0 new.toList (by simpa [hn] using there31 h hs)
  have : cs' = new := by
    apply Array.ext
    · omega
    · intro j hj hj'
      have := hr j new[j] (by simp [hj'])
      rw [Nat.zero_add, cell_of_row _ g j cs' 31 _ h1, Array.getElem?_eq_getElem hj] at this
      exact Option.some.inj this
  rw [h1, this]

theorem below_setCells {B : Nat} {w : World} (b : Nat) (hB : B ≤ b) : ∀ (vs : List Value) (o : Nat) (wx : World), Below B w wx → Below B w (wx.setCells b o vs)
  | [], _, _, h => h
  | v :: vs, o, _, h => below_setCells b hB vs (o + 1) _ (h.setCell (p := ⟨b, o, none⟩) hB v)
theorem heap_setCells_other {b k : Nat} (hk : k ≠ b) : ∀ (vs : List Value) (o : Nat) (w : World), (w.setCells b o vs).heap[k]? = w.heap[k]?
  | [], _, _ => rfl
  | v :: vs, o, w => (heap_setCells_other hk vs (o + 1) _).trans (Below.heap_setCell w ⟨b, o, none⟩ v k hk)

set_option maxRecDepth 100000 in
set_option maxHeartbeats 1000000 in
theorem zzkept_any (sz : Nat) (a : Option Addr) (l c : Nat) (w : World) : Calls Try.prog 12 #[.int .i64 (sz : Int), .slice a l c] w fun e w' =>
    e = .returned (.agg (fresh sz (.func (Fn.func 16) #[] #[.pointer (some ⟨w.heap.size, 0, none⟩)]))) ∧ w'.cell? ⟨w.heap.size, 0, none⟩ = some (.slice a l c) ∧ w.heap.size < w'.heap.size ∧ Below w.heap.size w w' := by
  go_enter Try.func12, Try.ntmps12
  go_wp2_with fail
  refine (keptNames_func sz w.heap.size _).mono ?_
  rintro e w1 ⟨rfl, hb1⟩
  generalize hC : fresh sz (.func (Fn.func 16) #[] #[.pointer (some ⟨w.heap.size, 0, none⟩)]) = C
  have hs : C.size = 15 := by rw [← hC]; rfl
  have hone : C.all (·.oneCell') = true := by rw [← hC]; exact fresh_one sz _
  have hsz1 : w.heap.size + 2 ≤ w1.heap.size := by have := hb1.size; simp only [World.size_alloc] at this; omega
  have hrow : w1.heap[w.heap.size + 1]? = some (.cells (fresh 0 .nilFunc) 31 (0, 0)) := by
    refine (hb1.block _ (by simp only [World.size_alloc]; omega)).trans ?_
    exact heap_alloc2_new w _ _
  have hbox : w1.heap[w.heap.size]? = some (.cells #[.slice a l c] 22 (0, 0)) := by
    refine (hb1.block _ (by simp only [World.size_alloc]; omega)).trans ?_
    exact heap_alloc2_old w _ _
  have hbel : Below w.heap.size w w1 := (((Below.refl _ _).alloc (Nat.le_refl _) _).alloc (by simp only [World.size_alloc]; omega) _).trans (hb1.mono (by simp only [World.size_alloc]; omega))
  have hth := there31 hrow rfl
  rw [← hs] at hth
  have hi : (Try.prog.info? 31).map (·.size) = some C.size := by rw [hs]; exact info31
  go_wp2_with (refine wpList_store_mid rfl 31 _ _ rfl (w.heap.size+1) 0 C rfl rfl hth hi hone ?_)
  have hst := stored_row hrow rfl C hs
  refine bodyPost_ret (v := .agg C) (results_cell_row Try.results12 _ _ (w.heap.size + 1) 31 C _ _ rfl hst Try.underlying31 rfl (by kernel_rfl)) rfl ?_
  refine ⟨by rw [hC], ?_, ?_, below_setCells _ (by omega) _ _ _ hbel⟩
  · rw [cell_of_row _ w.heap.size 0 #[.slice a l c] 22 _ ((heap_setCells_other (by omega) _ _ _).trans hbox)]; rfl
  · have := (below_setCells (B := 0) (w := w1) (w.heap.size + 1) (Nat.zero_le _) C.toList 0 w1 (Below.refl _ _)).size
    omega
end Go.Proofs.Qxb6604378a
