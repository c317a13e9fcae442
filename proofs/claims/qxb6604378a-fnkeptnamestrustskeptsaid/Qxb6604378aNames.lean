/-
  (*Names).Add AS A STEP OF A PLAIN MACHINE.
-/
import Derived.Test.Qxb6604378aAddd
namespace Go.Proofs.Qxb6604378a
open Go.RowKit Go.Maps
set_option linter.unusedVariables false
set_option linter.unusedSimpArgs false

/-- What the map is made of: the first eight, the later ones that the set keeps, those that the teller tells. -/
def idx (kp : Option (List ByteArray)) (L : List ByteArray) : List ByteArray := match kp with
  | none => L.take 8 ++ L.drop 8 ++ []
  | some K => L.take 8 ++ [] ++ (K.take L.length).drop 8
/-- The later ones that the set keeps. -/
def aftOf (kp : Option (List ByteArray)) (L : List ByteArray) : List ByteArray := match kp with
  | none => L.drop 8
  | some _ => []

/-- Add's answer. A state: the names so far and the mark, or the names that the map was made of. -/
def addR (kp : Option (List ByteArray)) (st : (List ByteArray × Bool) ⊕ List ByteArray) (name : ByteArray) : Bool := match st with
  | .inr S => !mem S name
  | .inl (L, un) => if L.length < 8 then !mem L name else if un1 un L.length name (L.getLastD E) = false then true else !mem (idx kp L) name
/-- Add's next state. -/
def addS (kp : Option (List ByteArray)) (st : (List ByteArray × Bool) ⊕ List ByteArray) (name : ByteArray) : (List ByteArray × Bool) ⊕ List ByteArray := match st with
  | .inr S => .inr (S ++ [name])
  | .inl (L, un) => if L.length < 8 then (if mem L name then .inl (L, un1 un L.length name (L.getLastD E)) else .inl (L ++ [name], un1 un L.length name (L.getLastD E)))
    else if un1 un L.length name (L.getLastD E) = false then .inl (L ++ [name], false) else .inr (idx kp L ++ [name])

/-- The set in memory: its struct at B, its other blocks fp. -/
def Inv (w : World) (B sz : Nat) (kv : Value) (kp : Option (List ByteArray)) (fp : List Nat) (st : (List ByteArray × Bool) ⊕ List ByteArray) : Prop := match st with
  | .inl (L, un) => (∀ s ∈ L, s.size ≤ maxLen) ∧ ∃ a c, RowV w B 31 15 (fld (fun i => L.getD i E) L.length (L.getLastD E) (.slice a (aftOf kp L).length c) un (.map none) sz kv) ∧
      w.ownsRow 0 9 1 (.slice a (aftOf kp L).length c) (aftOf kp L).length ((aftOf kp L).map Value.string) ∧ (Value.slice a (aftOf kp L).length c).ownBlock ≠ some B ∧ fp = (Value.slice a (aftOf kp L).length c).ownBlock.toList
  | .inr S => ∃ r, w.cell? ⟨B, 12, none⟩ = some (.map (some r)) ∧ SetAt w r S ∧ B ≠ r ∧ B < w.heap.size ∧ fp = [r]

/-- How long the lists may grow. -/
def Fits (st : (List ByteArray × Bool) ⊕ List ByteArray) : Prop := match st with
  | .inl (L, _) => L.length ≤ 8192
  | .inr S => S.length ≤ 100000

/-- The teller, if there is one: it lies apart from the set. -/
def KV (w : World) (B : Nat) (kv : Value) (kp : Option (List ByteArray)) : Prop :=
  (kv = .nilFunc ∧ kp = none) ∨ ∃ Bk gk c K, kv = .func (Fn.func 16) #[] #[.pointer (some ⟨Bk, 0, none⟩)] ∧ kp = some K ∧ KeptAt w Bk gk c K ∧ K.length ≤ 8192 ∧ Bk ≠ B ∧ gk ≠ B ∧ ∀ s ∈ K, s.size ≤ maxLen

/-- The teller knows as many as the set has. -/
def Enough (kp : Option (List ByteArray)) (st : (List ByteArray × Bool) ⊕ List ByteArray) : Prop := match kp, st with
  | some K, .inl (L, _) => L.length ≤ K.length
  | _, _ => True

/-- Of what was there only the set's own blocks have turned. -/
structure Frame (w w' : World) (B : Nat) (fp : List Nat) : Prop where
  os : w'.os = w.os
  tape : w'.tape = w.tape
  output : w'.output = w.output
  size : w.heap.size ≤ w'.heap.size
  block : ∀ k, k < w.heap.size → k ≠ B → k ∉ fp → w'.heap[k]? = w.heap[k]?

def AddPost (B sz : Nat) (kv : Value) (kp : Option (List ByteArray)) (fp : List Nat) (st : (List ByteArray × Bool) ⊕ List ByteArray) (name : ByteArray) (w : World) (e : Ending) (w' : World) : Prop :=
  e = .returned (.bool (addR kp st name)) ∧ ∃ fp', Inv w' B sz kv kp fp' (addS kp st name) ∧ (∀ b ∈ fp', b ∈ fp ∨ w.heap.size ≤ b) ∧ Frame w w' B fp

theorem frame_here {w w' : World} {B : Nat} (fp : List Nat) (h : w.grownBy w' (some B)) : Frame w w' B fp :=
  ⟨h.os, h.tape, h.output, h.size, fun k hk hB _ => h.block k hk (by simpa using hB)⟩

/-! Plain facts. -/
theorem getD_size (L : List ByteArray) (h : ∀ s ∈ L, s.size ≤ maxLen) (i : Nat) : (L.getD i E).size ≤ maxLen := by
  by_cases hi : i < L.length
  · rw [List.getD_eq_getElem?_getD, List.getElem?_eq_getElem hi]; exact h _ (List.getElem_mem hi)
  · rw [List.getD_eq_getElem?_getD, List.getElem?_eq_none (by omega)]; exact Nat.zero_le _

theorem inFew_mem (L : List ByteArray) (name : ByteArray) : inFew (fun i => L.getD i E) L.length name = mem L name := by
  rw [Bool.eq_iff_iff]
  unfold inFew mem
  rw [List.any_eq_true, List.any_eq_true]
  constructor
  · rintro ⟨i, hi, h⟩
    have hi' := List.mem_range.1 hi
    refine ⟨L[i], List.getElem_mem hi', ?_⟩
    have e : L.getD i E = L[i] := by rw [List.getD_eq_getElem?_getD, List.getElem?_eq_getElem hi']; rfl
    have h' : ((L.getD i E).toList == name.toList) = true := h
    rwa [e] at h'
  · rintro ⟨x, hx, h⟩
    obtain ⟨i, hi, rfl⟩ := List.getElem_of_mem hx
    refine ⟨i, List.mem_range.2 hi, ?_⟩
    have e : L.getD i E = L[i] := by rw [List.getD_eq_getElem?_getD, List.getElem?_eq_getElem hi]; rfl
    show ((L.getD i E).toList == name.toList) = true
    rw [e]; exact h

theorem upd_snoc (L : List ByteArray) (name : ByteArray) : upd (fun i => L.getD i E) L.length name = fun i => (L ++ [name]).getD i E := by
  funext i
  unfold upd
  simp only [List.getD_eq_getElem?_getD]
  by_cases h1 : i = L.length
  · subst h1; simp
  · rw [if_neg h1]
    by_cases h2 : i < L.length
    · rw [List.getElem?_append_left h2]
    · rw [List.getElem?_eq_none (by omega), List.getElem?_eq_none (by simp; omega)]

theorem firsts_eq (L : List ByteArray) (h : 8 ≤ L.length) : firsts (fun i => L.getD i E) = L.take 8 := by
  apply List.ext_getElem
  · simp [firsts]; omega
  · intro i h1 h2
    simp [firsts] at h1 ⊢
    rw [List.getElem?_eq_getElem (by omega)]
    rfl

theorem last_snoc (L : List ByteArray) (name : ByteArray) : (L ++ [name]).getLastD E = name := by simp

theorem few_snoc {w : World} {B : Nat} {L : List ByteArray} {name : ByteArray} {n : Nat} {last : ByteArray} {v : Value} {u : Bool} {mp : Value} {sz : Nat} {kv : Value} (h8 : 8 ≤ L.length)
    (h : RowV w B 31 15 (fld (fun i => L.getD i E) n last v u mp sz kv)) : RowV w B 31 15 (fld (fun i => (L ++ [name]).getD i E) n last v u mp sz kv) := by
  refine h.congr (fun j hj => ?_)
  unfold fld
  by_cases h1 : j < 8
  · simp only [h1, if_true, List.getD_eq_getElem?_getD]
    rw [List.getElem?_append_left (by omega)]
  · simp only [h1, if_false]

theorem aft_view {w : World} {a : Option Addr} {c : Nat} {xs : List ByteArray} (h : w.ownsRow 0 9 1 (.slice a xs.length c) xs.length (xs.map Value.string)) : Aft w (.slice a xs.length c) xs := by
  obtain ⟨_, h⟩ := h
  rcases h with ⟨h1, h2⟩ | ⟨g, c', cur, hv, _, hh, hlc, _, hs, ht⟩
  · exact .inl ⟨h1, List.eq_nil_of_length_eq_zero h2⟩
  · cases hv
    refine .inr ⟨g, c, rfl, fun i hi => ?_⟩
    have e : cur.toList[i]? = some (.string (xs.getD i E)) := by
      have h2 : (cur.toList.take (xs.length * 1))[i]? = (xs.map Value.string)[i]? := by rw [ht]
      rw [List.getElem?_take, if_pos (by omega), List.getElem?_map, List.getElem?_eq_getElem hi] at h2
      rw [h2, List.getD_eq_getElem?_getD, List.getElem?_eq_getElem hi]
      rfl
    simp only [World.cell?, hh]
    simpa using e

theorem own_toList (v : Value) (k : Nat) : k ∈ v.ownBlock.toList ↔ some k = v.ownBlock := by
  cases v.ownBlock <;> simp

set_option maxHeartbeats 1000000 in
theorem add_step (B sz : Nat) (kv : Value) (kp : Option (List ByteArray)) (fp : List Nat) (st : (List ByteArray × Bool) ⊕ List ByteArray) (name : ByteArray) (w : World)
    (hI : Inv w B sz kv kp fp st) (hK : KV w B kv kp) (hE : Enough kp st) (hF : Fits st) (hsz : sz ≤ 65536) (hname : name.size ≤ maxLen) :
    Calls Try.prog 10 #[.pointer (some ⟨B, 0, none⟩), .string name] w fun e w' => AddPost B sz kv kp fp st name w e w' := by
  cases st with
  | inr S =>
    obtain ⟨r, c12, hs, hBr, hBz, rfl⟩ := hI
    refine (add_map B r S name w c12 hs hF hname hBr).mono ?_
    rintro e w' ⟨rfl, hs', hg⟩
    refine ⟨rfl, [r], ⟨r, hg.cell c12 (by simpa using hBr), hs', hBr, Nat.lt_of_lt_of_le hBz hg.size, rfl⟩, fun b hb => Or.inl hb, ⟨hg.os, hg.tape, hg.output, hg.size, fun k hk _ hn => hg.block k hk (by simpa using hn)⟩⟩
  | inl q =>
    obtain ⟨L, un⟩ := q
    obtain ⟨hL, a, c, hrow, ho, hvB, rfl⟩ := hI
    have hF' : L.length ≤ 8192 := hF
    have hsnoc : ∀ s ∈ L ++ [name], s.size ≤ maxLen := by
      intro s hs
      rcases List.mem_append.1 hs with h | h
      · exact hL s h
      · rw [List.mem_singleton.1 h]; exact hname
    by_cases h8 : L.length < 8
    · refine (add_few B (fun i => L.getD i E) L.length (L.getLastD E) _ un sz kv name w hrow h8).mono ?_
      rintro e w' ⟨rfl, h1, h2, hg, hz⟩
      rw [inFew_mem] at h1 h2
      refine ⟨?_, (Value.slice a (aftOf kp L).length c).ownBlock.toList, ?_, fun b hb => Or.inl hb, frame_here _ hg⟩
      · rw [inFew_mem]; simp [addR, h8]
      · cases hm : mem L name with
        | true =>
          have e : addS kp (.inl (L, un)) name = .inl (L, un1 un L.length name (L.getLastD E)) := by simp [addS, h8, hm]
          rw [e]
          exact ⟨hL, a, c, h1 hm, owns_same ho hvB hg, hvB, rfl⟩
        | false =>
          have e : addS kp (.inl (L, un)) name = .inl (L ++ [name], un1 un L.length name (L.getLastD E)) := by simp [addS, h8, hm]
          rw [e]
          have ea : aftOf kp (L ++ [name]) = aftOf kp L := by
            cases kp with
            | none => simp only [aftOf]; rw [List.drop_of_length_le (by simp; omega), List.drop_of_length_le (by omega)]
            | some K => rfl
          have hr := h2 hm
          rw [upd_snoc] at hr
          refine ⟨hsnoc, a, c, ?_, ?_, ?_, ?_⟩
          · rw [ea, last_snoc]
            have el : (L ++ [name]).length = L.length + 1 := by simp
            rw [el]; exact hr
          · rw [ea]; exact owns_same ho hvB hg
          · rw [ea]; exact hvB
          · rw [ea]
    · have h8' : 8 ≤ L.length := by omega
      cases hu : un1 un L.length name (L.getLastD E) with
      | false =>
        have eR : addR kp (.inl (L, un)) name = true := by simp only [addR]; rw [if_neg h8, if_pos hu]
        have eS : addS kp (.inl (L, un)) name = .inl (L ++ [name], false) := by simp only [addS]; rw [if_neg h8, if_pos hu]
        have el : (L ++ [name]).length = L.length + 1 := by simp
        rcases hK with ⟨rfl, rfl⟩ | ⟨Bk, gk, cK, K, rfl, rfl, hk, hKl, hB1, hB2, hKs⟩
        · have hal : (aftOf none L).length ≤ 8192 := by simp [aftOf]; omega
          refine (add_own B (fun i => L.getD i E) L.length (L.getLastD E) a c un sz (aftOf none L) name w hrow h8' hF' hsz hal ho hvB hu).mono ?_
          rintro e w' ⟨rfl, v', hr, ho', hvB', hloc, ht⟩
          have ea : aftOf none (L ++ [name]) = aftOf none L ++ [name] := by simp only [aftOf]; rw [List.drop_append_of_le_length h8']
          have hsh : ∃ a' c', v' = .slice a' ((aftOf none L).length + 1) c' := by
            rcases ho'.2 with ⟨h, h'⟩ | ⟨g', c', _, h, _⟩
            · omega
            · exact ⟨_, _, h⟩
          obtain ⟨a', c', rfl⟩ := hsh
          have eal : (aftOf none (L ++ [name])).length = (aftOf none L).length + 1 := by rw [ea]; simp
          refine ⟨by rw [eR], (Value.slice a' ((aftOf none L).length + 1) c').ownBlock.toList, ?_, ?_, ⟨ht.os, ht.tape, ht.output, ht.size, fun k hk hB hn => ht.block k hk hB (fun e => hn ((own_toList _ k).2 e))⟩⟩
          · rw [eS]
            refine ⟨hsnoc, a', c', ?_, ?_, ?_, ?_⟩
            · rw [eal, last_snoc, el]; exact few_snoc h8' hr
            · rw [eal, ea]; exact ho'
            · rw [eal]; exact hvB'
            · rw [eal]
          · intro b hb
            rw [own_toList] at hb
            rcases hloc with h | ⟨k, h, hk⟩
            · exact Or.inl ((own_toList _ b).2 (hb.trans h))
            · right
              have : b = k := by simpa using hb.trans h
              omega
        · refine (add_kept B (fun i => L.getD i E) L.length (L.getLastD E) _ un sz _ (Fn.func 16) #[] #[.pointer (some ⟨Bk, 0, none⟩)] name w hrow h8' hF' rfl hu).mono ?_
          rintro e w' ⟨rfl, hr, hg, hz⟩
          refine ⟨by rw [eR], (Value.slice a (aftOf (some K) L).length c).ownBlock.toList, ?_, fun b hb => Or.inl hb, frame_here _ hg⟩
          rw [eS]
          exact ⟨hsnoc, a, c, by rw [last_snoc, el]; exact few_snoc h8' hr, owns_same ho hvB hg, hvB, rfl⟩
      | true =>
        have eR : addR kp (.inl (L, un)) name = !mem (idx kp L) name := by simp only [addR]; rw [if_neg h8, if_neg (by rw [hu]; simp)]
        have eS : addS kp (.inl (L, un)) name = .inr (idx kp L ++ [name]) := by simp only [addS]; rw [if_neg h8, if_neg (by rw [hu]; simp)]
        obtain ⟨kk, htell, hkl, hidx⟩ : ∃ kk, Tells w B L.length kv kk ∧ kk.length ≤ 8192 ∧ firsts (fun i => L.getD i E) ++ aftOf kp L ++ kk = idx kp L := by
          rcases hK with ⟨rfl, rfl⟩ | ⟨Bk, gk, cK, K, rfl, rfl, hk, hKl, hB1, hB2, hKs⟩
          · exact ⟨[], .inl ⟨rfl, rfl⟩, by simp, by rw [firsts_eq L h8']; rfl⟩
          · exact ⟨(K.take L.length).drop 8, .inr ⟨Bk, gk, cK, K, rfl, hk, hE, hKl, rfl, hB1, hB2, hKs⟩, by simp; omega, by rw [firsts_eq L h8']; rfl⟩
        have hal : (aftOf kp L).length ≤ 8192 := by cases kp <;> simp [aftOf]; omega
        have has : ∀ s ∈ aftOf kp L, s.size ≤ maxLen := by
          cases kp with
          | none => intro s hs; exact hL s (List.mem_of_mem_drop hs)
          | some K => intro s hs; cases hs
        have hrl := hrow.lt
        have H := add_index B (fun i => L.getD i E) L.length (L.getLastD E) _ un sz kv (aftOf kp L) kk name w hrow h8' hF' hsz (getD_size L hL) hname (aft_view ho) hal has hvB htell hkl hu
        rw [hidx] at H
        refine H.mono ?_
        rintro e w' ⟨rfl, c12, hs', hg⟩
        refine ⟨by rw [eR], [w.heap.size], ?_, fun b hb => Or.inr (by rw [List.mem_singleton.1 hb]; exact Nat.le_refl _), frame_here _ hg⟩
        rw [eS]
        exact ⟨w.heap.size, c12, hs', by omega, Nat.lt_of_lt_of_le hrl hg.size, rfl⟩

end Go.Proofs.Qxb6604378a
