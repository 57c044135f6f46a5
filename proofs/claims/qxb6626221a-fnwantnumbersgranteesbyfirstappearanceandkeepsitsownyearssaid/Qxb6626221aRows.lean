/-
  No cell of these rows narrows 'for every input' (looked for: loops, veiled, ifaces, maps, wideKeys, modest, calm, conditions, laid).
  DERIVED. THE GIVEN ROWS OF THIS SEAT. 2 by the template 'for every input the law returns true; each argument reads behind the call as it read before'; 0 by the template 'total and deterministic' (their statements: Qxb6626221aTotals.lean).
  GIVEN WITH THE SEED: the statements are not yours to turn. If you find one false, say at which input.
  Laid BY PROGRAM, IN A SANDBOX (cutbox-rows.mjs): the forced cells as the released guide's own fill.sh prints them over the translation 89ea264d558f3d16… (all of the seat's roots in one cut). By AI agents, Wed Nov 11 2026. No macro, syntax, notation, axiom, sorry.
-/
import Derived.Test.Qxb6626221aChecked
import GoSem.Claim
import GoSem.ClaimJoined
import GoSem.ClaimMapViews
import Derived.JoinedTies
import Derived.KernelRfl
namespace Go.Proofs.Qxb6626221a
/- THE CELL 'sum', in the pinned program and in every row, IS THE sha256 OF THE DUMP (.gsa) THAT Qxb6626221aProg.lean LOADS. Nothing in Lean hashes anything: it is a label: what it is worth is what the hold of that sum in a sandbox is worth. -/
noncomputable def Try.pinned : Pinned := { name := "qxb6626221a", sum := "89ea264d558f3d169d322a9cb9f69eb42d0d28d570f7cc07c980e3b6a9356192", checked := Try.checked }
namespace Rows
def none {H : Type} : Left H := { results := [], args := [] }

/-- 'zzlaws_roster_b1.FnWantNumbersGranteesByFirstAppearanceAndKeepsItsOwnYears': WHATEVER THE INPUT: true; the input reads as it did. -/
def fnWantNumbersGranteesByFirstAppearanceAndKeepsItsOwnYearsSpec : ChangeSpec := { name := "fnWantNumbersGranteesByFirstAppearanceAndKeepsItsOwnYears", fn := fun _ => fun
  | [d1, d2] => { results := [.lit (.bool true)], args := [d1, d2] }
  | _ => none }
def fnWantNumbersGranteesByFirstAppearanceAndKeepsItsOwnYearsRow : OpenClaim := { program := "qxb6626221a", sum := "89ea264d558f3d169d322a9cb9f69eb42d0d28d570f7cc07c980e3b6a9356192", func := "example.com/vestline/vestline/zzlaws_roster_b1.FnWantNumbersGranteesByFirstAppearanceAndKeepsItsOwnYears", spec := "fnWantNumbersGranteesByFirstAppearanceAndKeepsItsOwnYears", apart := false }
def FnWantNumbersGranteesByFirstAppearanceAndKeepsItsOwnYearsSaid : Prop := fnWantNumbersGranteesByFirstAppearanceAndKeepsItsOwnYearsRow.holds Try.pinned (OpenSpec.ofChange fnWantNumbersGranteesByFirstAppearanceAndKeepsItsOwnYearsSpec)

/-- ITS FALSE NEIGHBOUR: 'it returns false'. Refute it at one input. -/
def fnWantNumbersGranteesByFirstAppearanceAndKeepsItsOwnYearsWrong : ChangeSpec := { name := "fnWantNumbersGranteesByFirstAppearanceAndKeepsItsOwnYears", fn := fun _ => fun
  | [d1, d2] => { results := [.lit (.bool false)], args := [d1, d2] }
  | _ => none }
def FnWantNumbersGranteesByFirstAppearanceAndKeepsItsOwnYearsWrongFalsely : Prop := fnWantNumbersGranteesByFirstAppearanceAndKeepsItsOwnYearsRow.holds Try.pinned (OpenSpec.ofChange fnWantNumbersGranteesByFirstAppearanceAndKeepsItsOwnYearsWrong)

/-- 'zzlaws_roster_b1.FnWantKeepsPrefixNumbersWhenMoreGranteesFollow': WHATEVER THE INPUT: true; the input reads as it did. -/
def fnWantKeepsPrefixNumbersWhenMoreGranteesFollowSpec : ChangeSpec := { name := "fnWantKeepsPrefixNumbersWhenMoreGranteesFollow", fn := fun _ => fun
  | [d1, d2, d3] => { results := [.lit (.bool true)], args := [d1, d2, d3] }
  | _ => none }
def fnWantKeepsPrefixNumbersWhenMoreGranteesFollowRow : OpenClaim := { program := "qxb6626221a", sum := "89ea264d558f3d169d322a9cb9f69eb42d0d28d570f7cc07c980e3b6a9356192", func := "example.com/vestline/vestline/zzlaws_roster_b1.FnWantKeepsPrefixNumbersWhenMoreGranteesFollow", spec := "fnWantKeepsPrefixNumbersWhenMoreGranteesFollow", apart := false }
def FnWantKeepsPrefixNumbersWhenMoreGranteesFollowSaid : Prop := fnWantKeepsPrefixNumbersWhenMoreGranteesFollowRow.holds Try.pinned (OpenSpec.ofChange fnWantKeepsPrefixNumbersWhenMoreGranteesFollowSpec)

/-- ITS FALSE NEIGHBOUR: 'it returns false'. Refute it at one input. -/
def fnWantKeepsPrefixNumbersWhenMoreGranteesFollowWrong : ChangeSpec := { name := "fnWantKeepsPrefixNumbersWhenMoreGranteesFollow", fn := fun _ => fun
  | [d1, d2, d3] => { results := [.lit (.bool false)], args := [d1, d2, d3] }
  | _ => none }
def FnWantKeepsPrefixNumbersWhenMoreGranteesFollowWrongFalsely : Prop := fnWantKeepsPrefixNumbersWhenMoreGranteesFollowRow.holds Try.pinned (OpenSpec.ofChange fnWantKeepsPrefixNumbersWhenMoreGranteesFollowWrong)

end Rows
end Go.Proofs.Qxb6626221a
