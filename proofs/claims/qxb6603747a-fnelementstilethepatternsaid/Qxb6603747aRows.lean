/-
  No cell of these rows narrows 'for every input' (looked for: loops, veiled, ifaces, maps, wideKeys, modest, calm, conditions, laid).
  DERIVED. THE GIVEN ROWS OF THIS SEAT. 4 by the template 'for every input the law returns true; each argument reads behind the call as it read before'; 0 by the template 'total and deterministic' (their statements: Qxb6603747aTotals.lean).
  GIVEN WITH THE SEED: the statements are not yours to turn. If you find one false, say at which input.
  Laid BY PROGRAM, IN A SANDBOX (cutbox-rows.mjs): the forced cells as the released guide's own fill.sh prints them over the translation 98142c7cdbbb01cb… (all of the seat's roots in one cut). By AI agents, Wed Nov 11 2026. No macro, syntax, notation, axiom, sorry.
-/
import Derived.Test.Qxb6603747aChecked
import GoSem.Claim
import GoSem.ClaimJoined
import GoSem.ClaimMapViews
import Derived.JoinedTies
import Derived.KernelRfl
namespace Go.Proofs.Qxb6603747a
/- THE CELL 'sum', in the pinned program and in every row, IS THE sha256 OF THE DUMP (.gsa) THAT Qxb6603747aProg.lean LOADS. Nothing in Lean hashes anything: it is a label: what it is worth is what the hold of that sum in a sandbox is worth. -/
noncomputable def Try.pinned : Pinned := { name := "qxb6603747a", sum := "98142c7cdbbb01cb347d90c34da2041b8518594e114b45698680bac2f9c292eb", checked := Try.checked }
namespace Rows
def none {H : Type} : Left H := { results := [], args := [] }

/-- 'zzlaws_internal_glob_b1.FnSetMatchesGrammarModel': WHATEVER THE INPUT: true; the input reads as it did. -/
def fnSetMatchesGrammarModelSpec : ChangeSpec := { name := "fnSetMatchesGrammarModel", fn := fun _ => fun
  | [d1, d2] => { results := [.lit (.bool true)], args := [d1, d2] }
  | _ => none }
def fnSetMatchesGrammarModelRow : OpenClaim := { program := "qxb6603747a", sum := "98142c7cdbbb01cb347d90c34da2041b8518594e114b45698680bac2f9c292eb", func := "example.com/tessellar/tessellar/zzlaws_internal_glob_b1.FnSetMatchesGrammarModel", spec := "fnSetMatchesGrammarModel", apart := false }
def FnSetMatchesGrammarModelSaid : Prop := fnSetMatchesGrammarModelRow.holds Try.pinned (OpenSpec.ofChange fnSetMatchesGrammarModelSpec)

/-- ITS FALSE NEIGHBOUR: 'it returns false'. Refute it at one input. -/
def fnSetMatchesGrammarModelWrong : ChangeSpec := { name := "fnSetMatchesGrammarModel", fn := fun _ => fun
  | [d1, d2] => { results := [.lit (.bool false)], args := [d1, d2] }
  | _ => none }
def FnSetMatchesGrammarModelWrongFalsely : Prop := fnSetMatchesGrammarModelRow.holds Try.pinned (OpenSpec.ofChange fnSetMatchesGrammarModelWrong)

/-- 'zzlaws_internal_glob_b1.FnSetCaretComplements': WHATEVER THE INPUT: true; the input reads as it did. -/
def fnSetCaretComplementsSpec : ChangeSpec := { name := "fnSetCaretComplements", fn := fun _ => fun
  | [d1, d2] => { results := [.lit (.bool true)], args := [d1, d2] }
  | _ => none }
def fnSetCaretComplementsRow : OpenClaim := { program := "qxb6603747a", sum := "98142c7cdbbb01cb347d90c34da2041b8518594e114b45698680bac2f9c292eb", func := "example.com/tessellar/tessellar/zzlaws_internal_glob_b1.FnSetCaretComplements", spec := "fnSetCaretComplements", apart := false }
def FnSetCaretComplementsSaid : Prop := fnSetCaretComplementsRow.holds Try.pinned (OpenSpec.ofChange fnSetCaretComplementsSpec)

/-- ITS FALSE NEIGHBOUR: 'it returns false'. Refute it at one input. -/
def fnSetCaretComplementsWrong : ChangeSpec := { name := "fnSetCaretComplements", fn := fun _ => fun
  | [d1, d2] => { results := [.lit (.bool false)], args := [d1, d2] }
  | _ => none }
def FnSetCaretComplementsWrongFalsely : Prop := fnSetCaretComplementsRow.holds Try.pinned (OpenSpec.ofChange fnSetCaretComplementsWrong)

/-- 'zzlaws_internal_glob_b1.FnElementsTileThePattern': WHATEVER THE INPUT: true; the input reads as it did. -/
def fnElementsTileThePatternSpec : ChangeSpec := { name := "fnElementsTileThePattern", fn := fun _ => fun
  | [d] => { results := [.lit (.bool true)], args := [d] }
  | _ => none }
def fnElementsTileThePatternRow : OpenClaim := { program := "qxb6603747a", sum := "98142c7cdbbb01cb347d90c34da2041b8518594e114b45698680bac2f9c292eb", func := "example.com/tessellar/tessellar/zzlaws_internal_glob_b1.FnElementsTileThePattern", spec := "fnElementsTileThePattern", apart := false }
def FnElementsTileThePatternSaid : Prop := fnElementsTileThePatternRow.holds Try.pinned (OpenSpec.ofChange fnElementsTileThePatternSpec)

/-- ITS FALSE NEIGHBOUR: 'it returns false'. Refute it at one input. -/
def fnElementsTileThePatternWrong : ChangeSpec := { name := "fnElementsTileThePattern", fn := fun _ => fun
  | [d] => { results := [.lit (.bool false)], args := [d] }
  | _ => none }
def FnElementsTileThePatternWrongFalsely : Prop := fnElementsTileThePatternRow.holds Try.pinned (OpenSpec.ofChange fnElementsTileThePatternWrong)

/-- 'zzlaws_internal_glob_b1.FnStepShiftsTheMatchedPositions': WHATEVER THE INPUT: true; the input reads as it did. -/
def fnStepShiftsTheMatchedPositionsSpec : ChangeSpec := { name := "fnStepShiftsTheMatchedPositions", fn := fun _ => fun
  | [d1, d2, d3, d4] => { results := [.lit (.bool true)], args := [d1, d2, d3, d4] }
  | _ => none }
def fnStepShiftsTheMatchedPositionsRow : OpenClaim := { program := "qxb6603747a", sum := "98142c7cdbbb01cb347d90c34da2041b8518594e114b45698680bac2f9c292eb", func := "example.com/tessellar/tessellar/zzlaws_internal_glob_b1.FnStepShiftsTheMatchedPositions", spec := "fnStepShiftsTheMatchedPositions", apart := false }
def FnStepShiftsTheMatchedPositionsSaid : Prop := fnStepShiftsTheMatchedPositionsRow.holds Try.pinned (OpenSpec.ofChange fnStepShiftsTheMatchedPositionsSpec)

/-- ITS FALSE NEIGHBOUR: 'it returns false'. Refute it at one input. -/
def fnStepShiftsTheMatchedPositionsWrong : ChangeSpec := { name := "fnStepShiftsTheMatchedPositions", fn := fun _ => fun
  | [d1, d2, d3, d4] => { results := [.lit (.bool false)], args := [d1, d2, d3, d4] }
  | _ => none }
def FnStepShiftsTheMatchedPositionsWrongFalsely : Prop := fnStepShiftsTheMatchedPositionsRow.holds Try.pinned (OpenSpec.ofChange fnStepShiftsTheMatchedPositionsWrong)

end Rows
end Go.Proofs.Qxb6603747a
