/-
  LawS0444BRun: the block of the model's two searching loops as a constant.
-/
import Derived.Test.YbulkiecBody
namespace Go.Proofs.Ybulkiec
open Go.ChangeShapes Go.WideShapes Go.ChangeAt Go.RowKit
set_option linter.unusedVariables false

/-- The block of that number. -/
def blockR (id : Nat) : Code → Option Code
  | .block n c => if n = id then some (.block n c) else blockR id c
  | .loop c => blockR id c
  | .seq a b => (blockR id a).or (blockR id b)
  | .cond _ a b => (blockR id a).or (blockR id b)
  | .scope c => blockR id c
  | _ => none
/-- The block of the two searching loops. -/
def blk5 (f : Func) : Code := (f.body.bind (blockR 5)).getD .skip
end Go.Proofs.Ybulkiec
