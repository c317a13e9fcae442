/-
  Blocks as functions of the index; the walks of slices.Grow and input.Doubled at []string.
-/
import Derived.Test.Qxb6604378aRows
import Derived.WalkKit
import Derived.WalkLawsBesides
import Derived.WalkSpells
import Derived.OwnWalk
import Derived.Maps.OwnSet
import Derived.Maps.AppendAt
import Derived.Lib.AppendZerosOnto
import Derived.BigQuiet
namespace Go.Proofs.Qxb6604378a
open Go.RowKit
set_option linter.unusedVariables false

theorem hide {p : Prop} (h : p) : Hid p := h

theorem info9 : (Try.prog.info? 9).map (fun i => (i.zero, i.size, i.bytes)) = some (some (.string ⟨#[]⟩), 1, 16) := by kernel_rfl

/-- slices.Grow where the slice is full. -/
theorem grow_any (g l n : Nat) (cur : Array Value) (w : World) (hh : w.heap[g]? = some (.cells cur 9 (0, 0))) (hc : cur.size = l) (hl : l ≤ 8192) (hn0 : 0 < n) (hn : n ≤ 8192) :
    Calls Try.prog 17 #[.slice (some ⟨g, 0, none⟩) l l, .int .i64 (n : Int)] w fun e w' => ∃ c, e = .returned (.slice (some ⟨w.heap.size, 0, none⟩) l c) ∧ w'.ownsRow 0 9 1 (.slice (some ⟨w.heap.size, 0, none⟩) l c) l cur.toList ∧ w.grownBy w' none := by
  obtain ⟨i0, hi, hz0, hz1, hz2⟩ := info_parts info9
  have hold : (Builtin.firstCells i0.size l (.slice (some ⟨g, 0, none⟩) l l)).run Try.prog w.drew = .ok cur.toList.toArray w.drew := by
    refine run_firstCells_some w.drew i0.size l ⟨g, 0, none⟩ l l cur.toList (by rw [hz1]; simpa using hc) (fun j v hv => ?_)
    have e : (⟨g, 0, none⟩ : Addr).add j = ⟨g, j, none⟩ := by unfold Addr.add; split <;> simp_all
    show w.cell? _ = _
    rw [e]
    simpa [World.cell?, hh] using hv
  have hrz := fun ty => Go.Lib.run_append_grow_zeros (P := Try.prog) w 22 3 ty 9 i0 (.string ⟨#[]⟩) .i64 .i64 Try.underlying22 Try.underlying3 hi hz0 (some ⟨g, 0, none⟩) l l cur.toList hold n hn0 (by omega) (by omega) (by omega) (by rw [hz2]; omega) (growslice_fits (by omega) (by rw [hz2]; omega))
  have hGn : l + n ≤ grownCap w (l + n) l 9 := grownCap_ge w _ _ _
  have hG63 : grownCap w (l + n) l 9 ≤ maxLen := grownCap_le_maxLen w (l + n) l 9 (by unfold maxLen; omega)
  unfold maxLen at hG63
  obtain ⟨G, hG⟩ : ∃ G, G = grownCap w (l + n) l 9 := ⟨_, rfl⟩
  rw [← hG] at hrz hGn hG63
  obtain ⟨C, hC⟩ : ∃ C, C = cur.toList.toArray ++ Builtin.zeroCells (Value.string ⟨#[]⟩).cells n ++ Builtin.zeroCells (Value.string ⟨#[]⟩).cells (G - (l + n)) := ⟨_, rfl⟩
  rw [← hC] at hrz
  have hown : ((w.drew).alloc (.cells C 9)).ownsRow 0 9 1 (.slice (some ⟨w.heap.size, 0, none⟩) l G) l cur.toList := by
    refine ⟨by simp [hc], .inr ⟨w.heap.size, G, C, rfl, Nat.zero_le _, heap_alloc_new w.drew _, by omega, by unfold maxLen; omega, ?_, ?_⟩⟩
    · rw [hC]; simp [Builtin.zeroCells, Value.cells, hc]; omega
    · rw [hC]; simp [hc]
  have HOWN := hide hown
  clear hold hG hC hown hi hz0 hz1 hz2 hh
  go_enter Try.func17, Try.ntmps17
  go_wp2_with (at_builtin; refine Lib.wpList_append_run _ rfl _ _ _ _ rfl _ _ rfl rfl _ _ (hrz _) ?_)
  all_goals
    go_ret
    exact ⟨G, rfl, HOWN.out, ⟨rfl, rfl, rfl, by simp, fun k hk _ => Below.heap_alloc w _ k hk⟩⟩

/-- Some slice that owns the same, in its old row or in a new one. -/
def Same (w : World) (v : Value) (n : Nat) (xs : List Value) (e : Ending) (w' : World) : Prop :=
  ∃ v', e = .returned v' ∧ w'.ownsRow 0 9 1 v' n xs ∧ w.grownBy w' none ∧ (v'.ownBlock = v.ownBlock ∨ v'.ownBlock = some w.heap.size)

/-- input.Doubled, of a slice that is not nil. -/
theorem doubled_any (g l c : Nat) (xs : List Value) (w : World) (ho : w.ownsRow 0 9 1 (.slice (some ⟨g, 0, none⟩) l c) l xs) (hl : l ≤ 8192) :
    Calls Try.prog 14 #[.slice (some ⟨g, 0, none⟩) l c] w fun e w' => Same w (.slice (some ⟨g, 0, none⟩) l c) l xs e w' := by
  obtain ⟨hlen, h⟩ := ho
  rcases h with ⟨h, _⟩ | ⟨g', c', cur, hv, _, hh, hlc, hcm, hs, ht⟩
  · cases h
  cases hv
  unfold maxLen at hcm
  have HO : Hid (w.ownsRow 0 9 1 (.slice (some ⟨g, 0, none⟩) l c) l xs) := ⟨hlen, .inr ⟨g, c, cur, rfl, Nat.zero_le _, hh, hlc, by unfold maxLen; omega, hs, ht⟩⟩
  by_cases hlt : l < c
  · clear hh ht
    go_enter Try.func14, Try.ntmps14
    go_wp2
    go_ret
    exact ⟨_, rfl, HO.out, ⟨rfl, rfl, rfl, Nat.le_refl _, fun _ _ _ => rfl⟩, Or.inl rfl⟩
  · obtain rfl : c = l := by omega
    have hx : cur.toList = xs := by rw [← ht, List.take_of_length_le (by simp; omega)]
    have hG := fun n (h0 : 0 < n) (hn : n ≤ 8192) => grow_any g c n cur w hh (by omega) hl h0 hn
    rw [hx] at hG
    have HG := hide hG
    clear hG hh ht hx
    by_cases h16 : c < 16
    · go_enter Try.func14, Try.ntmps14
      go_wp2_with fail
      refine (HG.out 16 (by omega) (by omega)).mono ?_
      rintro e w' ⟨G, rfl, hown, hgr⟩
      have HH := hide (And.intro hown hgr)
      clear hown hgr
      go_wp2_with fail
      go_ret
      exact ⟨_, rfl, HH.out.1, HH.out.2, Or.inr rfl⟩
    · go_enter Try.func14, Try.ntmps14
      go_wp2_with fail
      refine (HG.out c (by omega) (by omega)).mono ?_
      rintro e w' ⟨G, rfl, hown, hgr⟩
      have HH := hide (And.intro hown hgr)
      clear hown hgr
      go_wp2_with fail
      go_ret
      exact ⟨_, rfl, HH.out.1, HH.out.2, Or.inr rfl⟩
end Go.Proofs.Qxb6604378a
