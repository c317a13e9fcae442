/-
  The frame that the three laws share: how a slice of names comes in.
-/
import Derived.Test.Qxb6604378aHelp
import Derived.ProofKit
import Derived.OpenShut
import Derived.ShutString
import Derived.ChangeOld
import Derived.SliceStrings
import Derived.Below
namespace Go.Proofs.Qxb6604378a
open Go.ChangeShapes Go.WideShapes Go.ChangeAt Go.RowKit
set_option linter.unusedVariables false

theorem own : ownKnob Try.prog.godebug = none := by kernel_rfl
theorem laidOut : laidOutB Try.prog = true := by kernel_rfl

theorem arg_of {w : World} {x : Addr} {len cap : Nat} {ss : List ByteArray} (hl : len ≤ cap) (hz : ss.length = cap) (hc : ∀ i, i < ss.length → w.cell? (x.add i) = some (.string (ss.getD i ByteArray.empty))) :
    Arg w (some x) len (fun i => ss.getD i ByteArray.empty) := by
  intro h0
  obtain ⟨b, off, spot⟩ := x
  have c0 := hc 0 (by omega)
  have hspot : spot = none := by simpa [Addr.add] using World.cell?_spot c0
  subst hspot
  have e : ∀ j, (⟨b, off, none⟩ : Addr).add j = ⟨b, off + j, none⟩ := fun j => Go.WideShapes.add_plain ..
  refine ⟨b, off, rfl, ?_, fun i hi => ?_⟩
  · rw [e] at c0; exact block_lt_of_cell c0
  · rw [← e]; exact hc i (by omega)

theorem sizes_of {ss : List ByteArray} (h : ∀ s ∈ ss, s.size ≤ maxLen) (i : Nat) : (ss.getD i ByteArray.empty).size ≤ maxLen := by
  by_cases hi : i < ss.length
  · rw [List.getD_eq_getElem?_getD, List.getElem?_eq_getElem hi]; exact h _ (List.getElem_mem hi)
  · rw [List.getD_eq_getElem?_getD, List.getElem?_eq_none (by omega)]; exact Nat.zero_le _

/-- What a law is told of the names. -/
def Told (W : World) (a : Option Addr) (len : Nat) : Prop := len ≤ maxLen ∧ ∃ ns, Arg W a len ns ∧ ∀ i, (ns i).size ≤ maxLen
end Go.Proofs.Qxb6604378a
