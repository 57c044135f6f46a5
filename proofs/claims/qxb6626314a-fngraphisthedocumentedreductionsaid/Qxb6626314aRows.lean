/-
  No cell of these rows narrows 'for every input' (looked for: loops, veiled, ifaces, maps, wideKeys, modest, calm, conditions, laid).
  DERIVED. THE GIVEN ROWS OF THIS SEAT. 2 by the template 'for every input the law returns true; each argument reads behind the call as it read before'; 0 by the template 'total and deterministic' (their statements: Qxb6626314aTotals.lean).
  GIVEN WITH THE SEED: the statements are not yours to turn. If you find one false, say at which input.
  Laid BY PROGRAM, IN A SANDBOX (cutbox-rows.mjs): the forced cells as the released guide's own fill.sh prints them over the translation be648e8c5630a65e… (all of the seat's roots in one cut). By AI agents, Wed Nov 11 2026. No macro, syntax, notation, axiom, sorry.
-/
import Derived.Test.Qxb6626314aChecked
import GoSem.Claim
import GoSem.ClaimJoined
import GoSem.ClaimMapViews
import Derived.JoinedTies
import Derived.KernelRfl
namespace Go.Proofs.Qxb6626314a
/- THE CELL 'sum', in the pinned program and in every row, IS THE sha256 OF THE DUMP (.gsa) THAT Qxb6626314aProg.lean LOADS. Nothing in Lean hashes anything: it is a label: what it is worth is what the hold of that sum in a sandbox is worth. -/
noncomputable def Try.pinned : Pinned := { name := "qxb6626314a", sum := "be648e8c5630a65ece0ccba6a9cf8962bc31999565166a955626613f6dffa959", checked := Try.checked }
namespace Rows
def none {H : Type} : Left H := { results := [], args := [] }

/-- 'zzlaws_internal_history_b1.FnGraphIsTheDocumentedReduction': WHATEVER THE INPUT: true; the input reads as it did. -/
def fnGraphIsTheDocumentedReductionSpec : ChangeSpec := { name := "fnGraphIsTheDocumentedReduction", fn := fun _ => fun
  | [d1, d2, d3] => { results := [.lit (.bool true)], args := [d1, d2, d3] }
  | _ => none }
def fnGraphIsTheDocumentedReductionRow : OpenClaim := { program := "qxb6626314a", sum := "be648e8c5630a65ece0ccba6a9cf8962bc31999565166a955626613f6dffa959", func := "example.com/anchorlog/anchorlog/zzlaws_internal_history_b1.FnGraphIsTheDocumentedReduction", spec := "fnGraphIsTheDocumentedReduction", unfollowed := true, recurses := true, apart := false }
def FnGraphIsTheDocumentedReductionSaid : Prop := fnGraphIsTheDocumentedReductionRow.holds Try.pinned (OpenSpec.ofChange fnGraphIsTheDocumentedReductionSpec)

/-- ITS FALSE NEIGHBOUR: 'it returns false'. Refute it at one input. -/
def fnGraphIsTheDocumentedReductionWrong : ChangeSpec := { name := "fnGraphIsTheDocumentedReduction", fn := fun _ => fun
  | [d1, d2, d3] => { results := [.lit (.bool false)], args := [d1, d2, d3] }
  | _ => none }
def FnGraphIsTheDocumentedReductionWrongFalsely : Prop := fnGraphIsTheDocumentedReductionRow.holds Try.pinned (OpenSpec.ofChange fnGraphIsTheDocumentedReductionWrong)

/-- 'zzlaws_internal_history_b1.FnGraphReachesExactlyTheConflicts': WHATEVER THE INPUT: true; the input reads as it did. -/
def fnGraphReachesExactlyTheConflictsSpec : ChangeSpec := { name := "fnGraphReachesExactlyTheConflicts", fn := fun _ => fun
  | [d1, d2, d3] => { results := [.lit (.bool true)], args := [d1, d2, d3] }
  | _ => none }
def fnGraphReachesExactlyTheConflictsRow : OpenClaim := { program := "qxb6626314a", sum := "be648e8c5630a65ece0ccba6a9cf8962bc31999565166a955626613f6dffa959", func := "example.com/anchorlog/anchorlog/zzlaws_internal_history_b1.FnGraphReachesExactlyTheConflicts", spec := "fnGraphReachesExactlyTheConflicts", unfollowed := true, recurses := true, apart := false }
def FnGraphReachesExactlyTheConflictsSaid : Prop := fnGraphReachesExactlyTheConflictsRow.holds Try.pinned (OpenSpec.ofChange fnGraphReachesExactlyTheConflictsSpec)

/-- ITS FALSE NEIGHBOUR: 'it returns false'. Refute it at one input. -/
def fnGraphReachesExactlyTheConflictsWrong : ChangeSpec := { name := "fnGraphReachesExactlyTheConflicts", fn := fun _ => fun
  | [d1, d2, d3] => { results := [.lit (.bool false)], args := [d1, d2, d3] }
  | _ => none }
def FnGraphReachesExactlyTheConflictsWrongFalsely : Prop := fnGraphReachesExactlyTheConflictsRow.holds Try.pinned (OpenSpec.ofChange fnGraphReachesExactlyTheConflictsWrong)

end Rows
end Go.Proofs.Qxb6626314a
