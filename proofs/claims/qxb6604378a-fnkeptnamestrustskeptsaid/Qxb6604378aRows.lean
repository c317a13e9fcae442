/-
  No cell of these rows narrows 'for every input' (looked for: loops, veiled, ifaces, maps, wideKeys, modest, calm, conditions, laid).
  DERIVED. THE GIVEN ROWS OF THIS SEAT. 3 by the template 'for every input the law returns true; each argument reads behind the call as it read before'; 0 by the template 'total and deterministic' (their statements: Qxb6604378aTotals.lean).
  GIVEN WITH THE SEED: the statements are not yours to turn. If you find one false, say at which input.
  Laid BY PROGRAM, IN A SANDBOX (cutbox-rows.mjs): the forced cells as the released guide's own fill.sh prints them over the translation 77fb27328bb72ec8… (all of the seat's roots in one cut). By AI agents, Wed Nov 11 2026. No macro, syntax, notation, axiom, sorry.
-/
import Derived.Test.Qxb6604378aChecked
import GoSem.Claim
import GoSem.ClaimJoined
import GoSem.ClaimMapViews
import Derived.JoinedTies
import Derived.KernelRfl
namespace Go.Proofs.Qxb6604378a
/- THE CELL 'sum', in the pinned program and in every row, IS THE sha256 OF THE DUMP (.gsa) THAT Qxb6604378aProg.lean LOADS. Nothing in Lean hashes anything: it is a label: what it is worth is what the hold of that sum in a sandbox is worth. -/
noncomputable def Try.pinned : Pinned := { name := "qxb6604378a", sum := "77fb27328bb72ec8c4313147a43e328243a8fd02eee9a04efa00fd064d4a3c5c", checked := Try.checked }
namespace Rows
def none {H : Type} : Left H := { results := [], args := [] }

/-- 'zzlaws_internal_input_b1.FnNamesAddMatchesFirstSeen': WHATEVER THE INPUT: true; the input reads as it did. -/
def fnNamesAddMatchesFirstSeenSpec : ChangeSpec := { name := "fnNamesAddMatchesFirstSeen", fn := fun _ => fun
  | [d1, d2] => { results := [.lit (.bool true)], args := [d1, d2] }
  | _ => none }
def fnNamesAddMatchesFirstSeenRow : OpenClaim := { program := "qxb6604378a", sum := "77fb27328bb72ec8c4313147a43e328243a8fd02eee9a04efa00fd064d4a3c5c", func := "example.com/vestline/vestline/zzlaws_internal_input_b1.FnNamesAddMatchesFirstSeen", spec := "fnNamesAddMatchesFirstSeen", unfollowed := true, recurses := true, apart := false }
def FnNamesAddMatchesFirstSeenSaid : Prop := fnNamesAddMatchesFirstSeenRow.holds Try.pinned (OpenSpec.ofChange fnNamesAddMatchesFirstSeenSpec)

/-- ITS FALSE NEIGHBOUR: 'it returns false'. Refute it at one input. -/
def fnNamesAddMatchesFirstSeenWrong : ChangeSpec := { name := "fnNamesAddMatchesFirstSeen", fn := fun _ => fun
  | [d1, d2] => { results := [.lit (.bool false)], args := [d1, d2] }
  | _ => none }
def FnNamesAddMatchesFirstSeenWrongFalsely : Prop := fnNamesAddMatchesFirstSeenRow.holds Try.pinned (OpenSpec.ofChange fnNamesAddMatchesFirstSeenWrong)

/-- 'zzlaws_internal_input_b1.FnNamesAddCallerKeptMatchesFirstSeen': WHATEVER THE INPUT: true; the input reads as it did. -/
def fnNamesAddCallerKeptMatchesFirstSeenSpec : ChangeSpec := { name := "fnNamesAddCallerKeptMatchesFirstSeen", fn := fun _ => fun
  | [d1, d2] => { results := [.lit (.bool true)], args := [d1, d2] }
  | _ => none }
def fnNamesAddCallerKeptMatchesFirstSeenRow : OpenClaim := { program := "qxb6604378a", sum := "77fb27328bb72ec8c4313147a43e328243a8fd02eee9a04efa00fd064d4a3c5c", func := "example.com/vestline/vestline/zzlaws_internal_input_b1.FnNamesAddCallerKeptMatchesFirstSeen", spec := "fnNamesAddCallerKeptMatchesFirstSeen", unfollowed := true, recurses := true, apart := false }
def FnNamesAddCallerKeptMatchesFirstSeenSaid : Prop := fnNamesAddCallerKeptMatchesFirstSeenRow.holds Try.pinned (OpenSpec.ofChange fnNamesAddCallerKeptMatchesFirstSeenSpec)

/-- ITS FALSE NEIGHBOUR: 'it returns false'. Refute it at one input. -/
def fnNamesAddCallerKeptMatchesFirstSeenWrong : ChangeSpec := { name := "fnNamesAddCallerKeptMatchesFirstSeen", fn := fun _ => fun
  | [d1, d2] => { results := [.lit (.bool false)], args := [d1, d2] }
  | _ => none }
def FnNamesAddCallerKeptMatchesFirstSeenWrongFalsely : Prop := fnNamesAddCallerKeptMatchesFirstSeenRow.holds Try.pinned (OpenSpec.ofChange fnNamesAddCallerKeptMatchesFirstSeenWrong)

/-- 'zzlaws_internal_input_b1.FnKeptNamesTrustsKept': WHATEVER THE INPUT: true; the input reads as it did. -/
def fnKeptNamesTrustsKeptSpec : ChangeSpec := { name := "fnKeptNamesTrustsKept", fn := fun _ => fun
  | [d1, d2] => { results := [.lit (.bool true)], args := [d1, d2] }
  | _ => none }
def fnKeptNamesTrustsKeptRow : OpenClaim := { program := "qxb6604378a", sum := "77fb27328bb72ec8c4313147a43e328243a8fd02eee9a04efa00fd064d4a3c5c", func := "example.com/vestline/vestline/zzlaws_internal_input_b1.FnKeptNamesTrustsKept", spec := "fnKeptNamesTrustsKept", unfollowed := true, recurses := true, apart := false }
def FnKeptNamesTrustsKeptSaid : Prop := fnKeptNamesTrustsKeptRow.holds Try.pinned (OpenSpec.ofChange fnKeptNamesTrustsKeptSpec)

/-- ITS FALSE NEIGHBOUR: 'it returns false'. Refute it at one input. -/
def fnKeptNamesTrustsKeptWrong : ChangeSpec := { name := "fnKeptNamesTrustsKept", fn := fun _ => fun
  | [d1, d2] => { results := [.lit (.bool false)], args := [d1, d2] }
  | _ => none }
def FnKeptNamesTrustsKeptWrongFalsely : Prop := fnKeptNamesTrustsKeptRow.holds Try.pinned (OpenSpec.ofChange fnKeptNamesTrustsKeptWrong)

end Rows
end Go.Proofs.Qxb6604378a
