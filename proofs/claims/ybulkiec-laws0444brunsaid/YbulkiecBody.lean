/-
  LawS0444BRun: the second loop's body as a constant.
-/
import Derived.Test.YbulkiecBeq
namespace Go.Proofs.Ybulkiec
open Go.ChangeShapes Go.WideShapes Go.ChangeAt Go.RowKit
set_option linter.unusedVariables false

/-- The region at a code's head. -/
def headR : Code → Option Nat
  | .region n _ _ => some n
  | .seq a _ => headR a
  | .block _ c => headR c
  | .scope c => headR c
  | _ => none
/-- The body of the loop whose head is region id. -/
def loopR (id : Nat) : Code → Option Code
  | .loop c => if headR c = some id then some c else loopR id c
  | .seq a b => (loopR id a).or (loopR id b)
  | .cond _ a b => (loopR id a).or (loopR id b)
  | .block _ c => loopR id c
  | .scope c => loopR id c
  | _ => none
/-- The second loop's body. -/
def body2 (f : Func) : Code := (f.body.bind (loopR 37)).getD .skip
end Go.Proofs.Ybulkiec
