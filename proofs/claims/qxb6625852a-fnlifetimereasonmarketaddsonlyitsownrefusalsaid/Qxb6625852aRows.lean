/-
  No cell of these rows narrows 'for every input' (looked for: loops, veiled, ifaces, maps, wideKeys, modest, calm, conditions, laid).
  DERIVED. THE GIVEN ROWS OF THIS SEAT. 2 by the template 'for every input the law returns true; each argument reads behind the call as it read before'; 0 by the template 'total and deterministic' (their statements: Qxb6625852aTotals.lean).
  GIVEN WITH THE SEED: the statements are not yours to turn. If you find one false, say at which input.
  Laid BY PROGRAM, IN A SANDBOX (cutbox-rows.mjs): the forced cells as the released guide's own fill.sh prints them over the translation 2a0ab0e612f98b5c… (all of the seat's roots in one cut). By AI agents, Wed Nov 11 2026. No macro, syntax, notation, axiom, sorry.
-/
import Derived.Test.Qxb6625852aChecked
import GoSem.Claim
import GoSem.ClaimJoined
import GoSem.ClaimMapViews
import Derived.JoinedTies
import Derived.KernelRfl
namespace Go.Proofs.Qxb6625852a
/- THE CELL 'sum', in the pinned program and in every row, IS THE sha256 OF THE DUMP (.gsa) THAT Qxb6625852aProg.lean LOADS. Nothing in Lean hashes anything: it is a label: what it is worth is what the hold of that sum in a sandbox is worth. -/
noncomputable def Try.pinned : Pinned := { name := "qxb6625852a", sum := "2a0ab0e612f98b5cf292c8cd161d546303498a9dad8d1967af22320285e2a13e", checked := Try.checked }
namespace Rows
def none {H : Type} : Left H := { results := [], args := [] }

/-- 'zzlaws_root_b1.FnLifetimeReasonEmptyExactlyWhenFitAndShiftFree': WHATEVER THE INPUT: true; the input reads as it did. -/
def fnLifetimeReasonEmptyExactlyWhenFitAndShiftFreeSpec : ChangeSpec := { name := "fnLifetimeReasonEmptyExactlyWhenFitAndShiftFree", fn := fun _ => fun
  | [d1, d2, d3, d4, d5, d6, d7, d8, d9, d10, d11, d12] => { results := [.lit (.bool true)], args := [d1, d2, d3, d4, d5, d6, d7, d8, d9, d10, d11, d12] }
  | _ => none }
def fnLifetimeReasonEmptyExactlyWhenFitAndShiftFreeRow : OpenClaim := { program := "qxb6625852a", sum := "2a0ab0e612f98b5cf292c8cd161d546303498a9dad8d1967af22320285e2a13e", func := "example.com/tenurebook/tenurebook/zzlaws_root_b1.FnLifetimeReasonEmptyExactlyWhenFitAndShiftFree", spec := "fnLifetimeReasonEmptyExactlyWhenFitAndShiftFree", apart := false }
def FnLifetimeReasonEmptyExactlyWhenFitAndShiftFreeSaid : Prop := fnLifetimeReasonEmptyExactlyWhenFitAndShiftFreeRow.holds Try.pinned (OpenSpec.ofChange fnLifetimeReasonEmptyExactlyWhenFitAndShiftFreeSpec)

/-- ITS FALSE NEIGHBOUR: 'it returns false'. Refute it at one input. -/
def fnLifetimeReasonEmptyExactlyWhenFitAndShiftFreeWrong : ChangeSpec := { name := "fnLifetimeReasonEmptyExactlyWhenFitAndShiftFree", fn := fun _ => fun
  | [d1, d2, d3, d4, d5, d6, d7, d8, d9, d10, d11, d12] => { results := [.lit (.bool false)], args := [d1, d2, d3, d4, d5, d6, d7, d8, d9, d10, d11, d12] }
  | _ => none }
def FnLifetimeReasonEmptyExactlyWhenFitAndShiftFreeWrongFalsely : Prop := fnLifetimeReasonEmptyExactlyWhenFitAndShiftFreeRow.holds Try.pinned (OpenSpec.ofChange fnLifetimeReasonEmptyExactlyWhenFitAndShiftFreeWrong)

/-- 'zzlaws_root_b1.FnLifetimeReasonMarketAddsOnlyItsOwnRefusal': WHATEVER THE INPUT: true; the input reads as it did. -/
def fnLifetimeReasonMarketAddsOnlyItsOwnRefusalSpec : ChangeSpec := { name := "fnLifetimeReasonMarketAddsOnlyItsOwnRefusal", fn := fun _ => fun
  | [d1, d2, d3, d4, d5, d6, d7, d8, d9, d10, d11] => { results := [.lit (.bool true)], args := [d1, d2, d3, d4, d5, d6, d7, d8, d9, d10, d11] }
  | _ => none }
def fnLifetimeReasonMarketAddsOnlyItsOwnRefusalRow : OpenClaim := { program := "qxb6625852a", sum := "2a0ab0e612f98b5cf292c8cd161d546303498a9dad8d1967af22320285e2a13e", func := "example.com/tenurebook/tenurebook/zzlaws_root_b1.FnLifetimeReasonMarketAddsOnlyItsOwnRefusal", spec := "fnLifetimeReasonMarketAddsOnlyItsOwnRefusal", apart := false }
def FnLifetimeReasonMarketAddsOnlyItsOwnRefusalSaid : Prop := fnLifetimeReasonMarketAddsOnlyItsOwnRefusalRow.holds Try.pinned (OpenSpec.ofChange fnLifetimeReasonMarketAddsOnlyItsOwnRefusalSpec)

/-- ITS FALSE NEIGHBOUR: 'it returns false'. Refute it at one input. -/
def fnLifetimeReasonMarketAddsOnlyItsOwnRefusalWrong : ChangeSpec := { name := "fnLifetimeReasonMarketAddsOnlyItsOwnRefusal", fn := fun _ => fun
  | [d1, d2, d3, d4, d5, d6, d7, d8, d9, d10, d11] => { results := [.lit (.bool false)], args := [d1, d2, d3, d4, d5, d6, d7, d8, d9, d10, d11] }
  | _ => none }
def FnLifetimeReasonMarketAddsOnlyItsOwnRefusalWrongFalsely : Prop := fnLifetimeReasonMarketAddsOnlyItsOwnRefusalRow.holds Try.pinned (OpenSpec.ofChange fnLifetimeReasonMarketAddsOnlyItsOwnRefusalWrong)

end Rows
end Go.Proofs.Qxb6625852a
