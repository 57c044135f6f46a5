/-
  No cell of these rows narrows 'for every input' (looked for: loops, veiled, ifaces, maps, wideKeys, modest, calm, conditions, laid).
  DERIVED. THE GIVEN ROWS OF THIS SEAT. 2 by the template 'for every input the law returns true; each argument reads behind the call as it read before'; 0 by the template 'total and deterministic' (their statements: Qxb6625890aTotals.lean).
  GIVEN WITH THE SEED: the statements are not yours to turn. If you find one false, say at which input.
  Laid BY PROGRAM, IN A SANDBOX (cutbox-rows.mjs): the forced cells as the released guide's own fill.sh prints them over the translation bed4125dbdf029a5… (all of the seat's roots in one cut). By AI agents, Wed Nov 11 2026. No macro, syntax, notation, axiom, sorry.
-/
import Derived.Test.Qxb6625890aChecked
import GoSem.Claim
import GoSem.ClaimJoined
import GoSem.ClaimMapViews
import Derived.JoinedTies
import Derived.KernelRfl
namespace Go.Proofs.Qxb6625890a
/- THE CELL 'sum', in the pinned program and in every row, IS THE sha256 OF THE DUMP (.gsa) THAT Qxb6625890aProg.lean LOADS. Nothing in Lean hashes anything: it is a label: what it is worth is what the hold of that sum in a sandbox is worth. -/
noncomputable def Try.pinned : Pinned := { name := "qxb6625890a", sum := "bed4125dbdf029a54b0e65ae65cb7b8d5cbf8de99b74e0d0e28f2124bc3b55af", checked := Try.checked }
namespace Rows
def none {H : Type} : Left H := { results := [], args := [] }

/-- 'zzlaws_internal_judge_b1.FnReadScriptMatchesFirstFailureModel': WHATEVER THE INPUT: true; the input reads as it did. -/
def fnReadScriptMatchesFirstFailureModelSpec : ChangeSpec := { name := "fnReadScriptMatchesFirstFailureModel", fn := fun _ => fun
  | [d1, d2, d3] => { results := [.lit (.bool true)], args := [d1, d2, d3] }
  | _ => none }
def fnReadScriptMatchesFirstFailureModelRow : OpenClaim := { program := "qxb6625890a", sum := "bed4125dbdf029a54b0e65ae65cb7b8d5cbf8de99b74e0d0e28f2124bc3b55af", func := "example.com/concordat/concordat/zzlaws_internal_judge_b1.FnReadScriptMatchesFirstFailureModel", spec := "fnReadScriptMatchesFirstFailureModel", apart := false }
def FnReadScriptMatchesFirstFailureModelSaid : Prop := fnReadScriptMatchesFirstFailureModelRow.holds Try.pinned (OpenSpec.ofChange fnReadScriptMatchesFirstFailureModelSpec)

/-- ITS FALSE NEIGHBOUR: 'it returns false'. Refute it at one input. -/
def fnReadScriptMatchesFirstFailureModelWrong : ChangeSpec := { name := "fnReadScriptMatchesFirstFailureModel", fn := fun _ => fun
  | [d1, d2, d3] => { results := [.lit (.bool false)], args := [d1, d2, d3] }
  | _ => none }
def FnReadScriptMatchesFirstFailureModelWrongFalsely : Prop := fnReadScriptMatchesFirstFailureModelRow.holds Try.pinned (OpenSpec.ofChange fnReadScriptMatchesFirstFailureModelWrong)

/-- 'zzlaws_internal_judge_b1.FnReadTwiceRepeatsOnlyTheDirtyEntry': WHATEVER THE INPUT: true; the input reads as it did. -/
def fnReadTwiceRepeatsOnlyTheDirtyEntrySpec : ChangeSpec := { name := "fnReadTwiceRepeatsOnlyTheDirtyEntry", fn := fun _ => fun
  | [d1, d2, d3, d4, d5, d6] => { results := [.lit (.bool true)], args := [d1, d2, d3, d4, d5, d6] }
  | _ => none }
def fnReadTwiceRepeatsOnlyTheDirtyEntryRow : OpenClaim := { program := "qxb6625890a", sum := "bed4125dbdf029a54b0e65ae65cb7b8d5cbf8de99b74e0d0e28f2124bc3b55af", func := "example.com/concordat/concordat/zzlaws_internal_judge_b1.FnReadTwiceRepeatsOnlyTheDirtyEntry", spec := "fnReadTwiceRepeatsOnlyTheDirtyEntry", apart := false }
def FnReadTwiceRepeatsOnlyTheDirtyEntrySaid : Prop := fnReadTwiceRepeatsOnlyTheDirtyEntryRow.holds Try.pinned (OpenSpec.ofChange fnReadTwiceRepeatsOnlyTheDirtyEntrySpec)

/-- ITS FALSE NEIGHBOUR: 'it returns false'. Refute it at one input. -/
def fnReadTwiceRepeatsOnlyTheDirtyEntryWrong : ChangeSpec := { name := "fnReadTwiceRepeatsOnlyTheDirtyEntry", fn := fun _ => fun
  | [d1, d2, d3, d4, d5, d6] => { results := [.lit (.bool false)], args := [d1, d2, d3, d4, d5, d6] }
  | _ => none }
def FnReadTwiceRepeatsOnlyTheDirtyEntryWrongFalsely : Prop := fnReadTwiceRepeatsOnlyTheDirtyEntryRow.holds Try.pinned (OpenSpec.ofChange fnReadTwiceRepeatsOnlyTheDirtyEntryWrong)

end Rows
end Go.Proofs.Qxb6625890a
