/-
  A set of names in memory: the struct's cells, the row of the later names, the map.
-/
import Derived.Test.Qxb6604378aBase
namespace Go.Proofs.Qxb6604378a
open Go.RowKit Go.Maps
set_option linter.unusedVariables false

theorem heap_put {w : World} {B T : Nat} {cs : Array Value} (h : w.heap[B]? = some (.cells cs T (0, 0))) (k : Nat) (v : Value) :
    (w.setCell ⟨B, k, none⟩ v).heap[B]? = some (.cells (cs.setIfInBounds k v) T (0, 0)) := by
  have hlt := lt_of_block h
  have h' : w.heap[B] = .cells cs T (0, 0) := by simpa [Array.getElem?_eq_getElem hlt] using h
  show (w.heap.modify B _)[B]? = _
  rw [Array.getElem?_eq_getElem (by simpa using hlt), Array.getElem_modify_self, h']
  rfl

/-- Block g holds n cells, the j-th is F j. -/
def RowV (w : World) (g T n : Nat) (F : Nat → Value) : Prop := ∃ cs : Array Value, w.heap[g]? = some (.cells cs T (0, 0)) ∧ cs.size = n ∧ ∀ j, j < n → cs[j]? = some (F j)

theorem RowV.lt {w : World} {g T n : Nat} {F : Nat → Value} (h : RowV w g T n F) : g < w.heap.size := by
  obtain ⟨cs, h1, _⟩ := h
  exact lt_of_block h1
theorem RowV.cell {w : World} {g T n : Nat} {F : Nat → Value} (h : RowV w g T n F) (j : Nat) (hj : j < n) : w.cell? ⟨g, j, none⟩ = some (F j) := by
  obtain ⟨cs, h1, _, h3⟩ := h
  simp [World.cell?, h1, h3 j hj]
theorem RowV.free {w : World} {g T n : Nat} {F : Nat → Value} (h : RowV w g T n F) (j : Nat) : w.frozen? ⟨g, j, none⟩ = false := by
  obtain ⟨cs, h1, _⟩ := h
  simp [World.frozen?, h1]
theorem RowV.of_block {w w' : World} {g T n : Nat} {F : Nat → Value} (h : RowV w g T n F) (e : w'.heap[g]? = w.heap[g]?) : RowV w' g T n F := by
  obtain ⟨cs, h1, h2, h3⟩ := h
  exact ⟨cs, e.trans h1, h2, h3⟩
theorem RowV.congr {w : World} {g T n : Nat} {F F' : Nat → Value} (h : RowV w g T n F) (e : ∀ j, j < n → F j = F' j) : RowV w g T n F' := by
  obtain ⟨cs, h1, h2, h3⟩ := h
  exact ⟨cs, h1, h2, fun j hj => by rw [h3 j hj, e j hj]⟩
theorem RowV.store {w : World} {g T n : Nat} {F F' : Nat → Value} (h : RowV w g T n F) (k : Nat) (v : Value) (ho : ∀ j, j < n → j ≠ k → F' j = F j) (hv : v = F' k) : RowV (w.setCell ⟨g, k, none⟩ v) g T n F' := by
  obtain ⟨cs, h1, h2, h3⟩ := h
  refine ⟨cs.setIfInBounds k v, heap_put h1 k _, by simp [h2], fun j hj => ?_⟩
  rw [Array.getElem?_setIfInBounds]
  by_cases e : k = j
  · subst e
    simp [h2, hj, hv]
  · rw [if_neg e, h3 j hj, ho j hj (Ne.symm e)]
theorem RowV.other {w : World} {g T n : Nat} {F : Nat → Value} (h : RowV w g T n F) {a : Addr} (ha : g ≠ a.block) (v : Value) : RowV (w.setCell a v) g T n F :=
  h.of_block (Below.heap_setCell w a v g ha)

/-- The empty string. -/
def E : ByteArray := ⟨#[]⟩

/-- The fields of a set: the first names, how many, the last, the row, the mark, the map, the size, the teller. -/
def fld (few : Nat → ByteArray) (n : Nat) (last : ByteArray) (v : Value) (un : Bool) (mp : Value) (sz : Nat) (kv : Value) : Nat → Value := fun i =>
  if i < 8 then .string (few i) else if i = 8 then .int .i64 (n : Int) else if i = 9 then .string last else if i = 10 then v else if i = 11 then .bool un else if i = 12 then mp else if i = 13 then .int .i64 (sz : Int) else kv

/-- The key of a name. -/
def key (s : ByteArray) : Lit := .string s.data.toList

/-- Block r is a map whose keys are the names S (some of them more than once). -/
def SetAt (w : World) (r : Nat) (S : List ByteArray) : Prop := ∃ n, n ≤ S.length ∧ w.ownsMap Try.prog 9 (unitElem (H := Unit)) r n (setOf (.agg []) (S.map key))

theorem law9 : Keyed Try.prog 9 := string_keyed Try.underlying9

theorem SetAt.of_block {w w' : World} {r : Nat} {S : List ByteArray} (h : SetAt w r S) (e : w'.heap[r]? = w.heap[r]?) : SetAt w' r S := by
  obtain ⟨n, hn, es, clock, h1, h2⟩ := h
  exact ⟨n, hn, es, clock, e.trans h1, h2⟩
theorem SetAt.lt {w : World} {r : Nat} {S : List ByteArray} (h : SetAt w r S) : r < w.heap.size := by
  obtain ⟨n, hn, es, clock, h1, h2⟩ := h
  exact lt_of_block h1
theorem set_made (w : World) : SetAt (w.alloc (.map #[] 0)) w.heap.size [] := ⟨0, Nat.le_refl _, World.ownsMap_made _ _ _ _⟩

/-- Is the name among those? -/
def mem (S : List ByteArray) (x : ByteArray) : Bool := S.any (fun y => y.toList == x.toList)

theorem keyLit (s : ByteArray) : WideAt.IsKeyLit (key s) := by unfold key; trivial

theorem same_key (a b : ByteArray) : (key a).sameKey (key b) = (a.toList == b.toList) := by
  simp [key, Lit.sameKey, ByteArray.toList_eq]

theorem has_mem (S : List ByteArray) (x : ByteArray) : has (setOf (H := Unit) (.agg []) (S.map key)) (key x) = mem S x := by
  rw [has_setOf _ _ _ (by intro y hy; obtain ⟨s, _, rfl⟩ := List.mem_map.1 hy; exact keyLit s), List.any_map]
  unfold mem
  congr 1
  funext y
  exact same_key y x

/-- How many entries the map has. -/
def siz (S : List ByteArray) : Nat := size (setOf (H := Unit) (.agg []) (S.map key))

theorem siz_snoc (S : List ByteArray) (x : ByteArray) : siz (S ++ [x]) = if mem S x then siz S else siz S + 1 := by
  unfold siz
  rw [List.map_append, List.map_singleton, setOf_snoc, size_put (tidy_setOf _ _ (by intro y hy; obtain ⟨s, _, rfl⟩ := List.mem_map.1 hy; exact keyLit s)), has_mem]

theorem siz_le (S : List ByteArray) : siz S ≤ S.length := by
  suffices h : ∀ T : List ByteArray, siz T.reverse ≤ T.length by
    have := h S.reverse
    rwa [List.reverse_reverse, List.length_reverse] at this
  intro T
  induction T with
  | nil => exact Nat.le_refl _
  | cons x T ih =>
    rw [List.reverse_cons, siz_snoc, List.length_cons]
    split <;> omega

/-- len of the map grows just where the name is new. -/
theorem grown_new (S : List ByteArray) (x : ByteArray) : decide (siz S < siz (S ++ [x])) = !mem S x := by
  rw [siz_snoc]
  cases mem S x <;> simp

theorem setAt_put {w : World} {r n : Nat} {S : List ByteArray} {x : ByteArray} (hn : n ≤ S.length) (h : w.ownsMap Try.prog 9 (unitElem (H := Unit)) r (n + 1) ((setOf (.agg []) (S.map key)).put (key x) (.agg []))) : SetAt w r (S ++ [x]) :=
  ⟨n + 1, by simp; omega, by rw [List.map_append, List.map_singleton, setOf_snoc]; exact h⟩

theorem key_of (s : ByteArray) (hs : s.size ≤ maxLen) : keyOf Try.prog 9 (.string s) = some (key s) := WideMaps.keyOf_string_mk Try.underlying9 hs

/-- make(map[string]struct{}, hint). -/
theorem make_hint (h : Int) (w : World) : (Instr.makeMap 28 (some (.int .i64 h))).run Try.prog w = .ok (.map (some w.heap.size)) (w.alloc (.map #[] 0)) := by
  simp [Instr.makeMap, run_underlying Try.underlying28, asInt, asIntOf]

end Go.Proofs.Qxb6604378a
