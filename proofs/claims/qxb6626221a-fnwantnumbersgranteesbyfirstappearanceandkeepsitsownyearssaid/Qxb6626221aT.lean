/-
  Seat b6626221a: a function's text, statement by statement.
-/
import Derived.Test.Qxb6626221aD
namespace Go.Proofs.Qxb6626221a
open Go.RowKit

def tailAt : Nat → Code → Code
  | 0, c => c
  | n + 1, .seq _ b => tailAt n b
  | _, c => c
def headAt : Code → Code
  | .seq a _ => a
  | c => c
/-- The text of f from its statement j on; its statement j. -/
def tl (f : Func) (j : Nat) : Code := tailAt j (f.body.getD .skip)
def st (f : Func) (j : Nat) : Code := headAt (tl f j)
/-- The law's end: it returns true, and nothing that was there has turned. -/
def QT (f : Func) (B : Nat) (w0 : World) : Exit → Act → World → Prop := bodyPost Try.prog f (fun e w' => e = .returned (.bool true) ∧ Below B w0 w')

end Go.Proofs.Qxb6626221a
