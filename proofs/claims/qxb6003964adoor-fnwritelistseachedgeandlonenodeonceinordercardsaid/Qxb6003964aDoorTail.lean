/-
  The rest of a function from a region on.
-/
import Derived.Test.Qxb6003964aDoorLines
import Derived.Deep.Cut
namespace Go.Proofs.Qxb6003964aDoor
open Go.ChangeShapes Go.WideShapes Go.ChangeAt Go.RowKit

def headRegion : Code → Option Nat
  | .region n _ _ => some n
  | .seq a _ => headRegion a
  | .loop b => headRegion b
  | .block _ b => headRegion b
  | _ => none
/-- The rest of the sequence from the statement whose first region is r. -/
def restFrom (r : Nat) : Code → Code
  | .seq a b => match headRegion a with
    | some k => bif Nat.beq k r then .seq a b else restFrom r b
    | none => restFrom r b
  | c => c
def seqFst : Code → Code
  | .seq a _ => a
  | c => c
def seqSnd : Code → Code
  | .seq _ b => b
  | _ => .skip
/-- The statement of the law whose first region is r, and what stands behind it. -/
def stAt (f : Func) (r : Nat) : Code := seqFst (restFrom r (f.body.getD .skip))
def behind (f : Func) (r : Nat) : Code := seqSnd (restFrom r (f.body.getD .skip))

def LPost (w0 : World) (e : Ending) (w' : World) : Prop := e = .returned (.bool true) ∧ Below w0.heap.size w0 w'
end Go.Proofs.Qxb6003964aDoor
