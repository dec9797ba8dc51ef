/-
  No cell of these rows narrows 'for every input' (looked for: loops, veiled, ifaces, maps, wideKeys, modest, calm, conditions, laid).
  DERIVED. THE GIVEN ROWS OF THIS SEAT. 2 by the template 'for every input the law returns true; each argument reads behind the call as it read before'; 0 by the template 'total and deterministic' (their statements: YbulkiecTotals.lean).
  GIVEN WITH THE SEED: the statements are not yours to turn. If you find one false, say at which input.
  Laid BY PROGRAM, IN A SANDBOX (cutbox-rows.mjs): the forced cells as the released guide's own fill.sh prints them over the translation 1a28665f28af9cb8… (all of the seat's roots in one cut). By AI agents, Wed Nov 11 2026. No macro, syntax, notation, axiom, sorry.
-/
import Derived.Test.YbulkiecChecked
import GoSem.Claim
import GoSem.ClaimJoined
import GoSem.ClaimMapViews
import Derived.JoinedTies
import Derived.KernelRfl
namespace Go.Proofs.Ybulkiec
/- THE CELL 'sum', in the pinned program and in every row, IS THE sha256 OF THE DUMP (.gsa) THAT YbulkiecProg.lean LOADS. Nothing in Lean hashes anything: it is a label: what it is worth is what the hold of that sum in a sandbox is worth. -/
noncomputable def Yba.pinned : Pinned := { name := "ybulkiec", sum := "1a28665f28af9cb847ffab26d6311fa7950e3c6e1e497c36aeab49213e6b0aba", checked := Yba.checked }
namespace Rows
def none {H : Type} : Left H := { results := [], args := [] }

/-- 'precedent.LawS0444BRun': WHATEVER THE INPUT: true; the input reads as it did. -/
def lawS0444BRunSpec : ChangeSpec := { name := "lawS0444BRun", fn := fun _ => fun
  | [d] => { results := [.lit (.bool true)], args := [d] }
  | _ => none }
def lawS0444BRunRow : OpenClaim := { program := "ybulkiec", sum := "1a28665f28af9cb847ffab26d6311fa7950e3c6e1e497c36aeab49213e6b0aba", func := "example.com/precedent/precedent.LawS0444BRun", spec := "lawS0444BRun", unfollowed := true, recurses := true, apart := false }
def LawS0444BRunSaid : Prop := lawS0444BRunRow.holds Yba.pinned (OpenSpec.ofChange lawS0444BRunSpec)

/-- ITS FALSE NEIGHBOUR: 'it returns false'. Refute it at one input. -/
def lawS0444BRunWrong : ChangeSpec := { name := "lawS0444BRun", fn := fun _ => fun
  | [d] => { results := [.lit (.bool false)], args := [d] }
  | _ => none }
def LawS0444BRunWrongFalsely : Prop := lawS0444BRunRow.holds Yba.pinned (OpenSpec.ofChange lawS0444BRunWrong)

/-- 'precedent.LawS0444CPrefix': WHATEVER THE INPUT: true; the input reads as it did. -/
def lawS0444CPrefixSpec : ChangeSpec := { name := "lawS0444CPrefix", fn := fun _ => fun
  | [d1, d2, d3] => { results := [.lit (.bool true)], args := [d1, d2, d3] }
  | _ => none }
def lawS0444CPrefixRow : OpenClaim := { program := "ybulkiec", sum := "1a28665f28af9cb847ffab26d6311fa7950e3c6e1e497c36aeab49213e6b0aba", func := "example.com/precedent/precedent.LawS0444CPrefix", spec := "lawS0444CPrefix", unfollowed := true, recurses := true, apart := false }
def LawS0444CPrefixSaid : Prop := lawS0444CPrefixRow.holds Yba.pinned (OpenSpec.ofChange lawS0444CPrefixSpec)

/-- ITS FALSE NEIGHBOUR: 'it returns false'. Refute it at one input. -/
def lawS0444CPrefixWrong : ChangeSpec := { name := "lawS0444CPrefix", fn := fun _ => fun
  | [d1, d2, d3] => { results := [.lit (.bool false)], args := [d1, d2, d3] }
  | _ => none }
def LawS0444CPrefixWrongFalsely : Prop := lawS0444CPrefixRow.holds Yba.pinned (OpenSpec.ofChange lawS0444CPrefixWrong)

end Rows
end Go.Proofs.Ybulkiec
