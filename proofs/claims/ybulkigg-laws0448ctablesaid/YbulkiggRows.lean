/-
  No cell of these rows narrows 'for every input' (looked for: loops, veiled, ifaces, maps, wideKeys, modest, calm, conditions, laid).
  DERIVED. THE GIVEN ROWS OF THIS SEAT. 4 by the template 'for every input the law returns true; each argument reads behind the call as it read before'; 0 by the template 'total and deterministic' (their statements: YbulkiggTotals.lean).
  GIVEN WITH THE SEED: the statements are not yours to turn. If you find one false, say at which input.
  Laid BY PROGRAM, IN A SANDBOX (cutbox-rows.mjs): the forced cells as the released guide's own fill.sh prints them over the translation 4c4a85d28ddcc018… (all of the seat's roots in one cut). By AI agents, Wed Nov 11 2026. No macro, syntax, notation, axiom, sorry.
-/
import Derived.Test.YbulkiggChecked
import GoSem.Claim
import GoSem.ClaimJoined
import GoSem.ClaimMapViews
import Derived.JoinedTies
import Derived.KernelRfl
namespace Go.Proofs.Ybulkigg
/- THE CELL 'sum', in the pinned program and in every row, IS THE sha256 OF THE DUMP (.gsa) THAT YbulkiggProg.lean LOADS. Nothing in Lean hashes anything: it is a label: what it is worth is what the hold of that sum in a sandbox is worth. -/
noncomputable def Yba.pinned : Pinned := { name := "ybulkigg", sum := "4c4a85d28ddcc018334b3caf7bdfbd59c5d1508438e4a12067c6b861523a20cf", checked := Yba.checked }
namespace Rows
def none {H : Type} : Left H := { results := [], args := [] }

/-- 'price.LawS0448BExact': WHATEVER THE INPUT: true; the input reads as it did. -/
def lawS0448BExactSpec : ChangeSpec := { name := "lawS0448BExact", fn := fun _ => fun
  | [d1, d2, d3] => { results := [.lit (.bool true)], args := [d1, d2, d3] }
  | _ => none }
def lawS0448BExactRow : OpenClaim := { program := "ybulkigg", sum := "4c4a85d28ddcc018334b3caf7bdfbd59c5d1508438e4a12067c6b861523a20cf", func := "example.com/putright/putright/price.LawS0448BExact", spec := "lawS0448BExact", unfollowed := true, recurses := true, apart := false }
def LawS0448BExactSaid : Prop := lawS0448BExactRow.holds Yba.pinned (OpenSpec.ofChange lawS0448BExactSpec)

/-- ITS FALSE NEIGHBOUR: 'it returns false'. Refute it at one input. -/
def lawS0448BExactWrong : ChangeSpec := { name := "lawS0448BExact", fn := fun _ => fun
  | [d1, d2, d3] => { results := [.lit (.bool false)], args := [d1, d2, d3] }
  | _ => none }
def LawS0448BExactWrongFalsely : Prop := lawS0448BExactRow.holds Yba.pinned (OpenSpec.ofChange lawS0448BExactWrong)

/-- 'price.LawS0448BBounds': WHATEVER THE INPUT: true; the input reads as it did. -/
def lawS0448BBoundsSpec : ChangeSpec := { name := "lawS0448BBounds", fn := fun _ => fun
  | [d1, d2, d3] => { results := [.lit (.bool true)], args := [d1, d2, d3] }
  | _ => none }
def lawS0448BBoundsRow : OpenClaim := { program := "ybulkigg", sum := "4c4a85d28ddcc018334b3caf7bdfbd59c5d1508438e4a12067c6b861523a20cf", func := "example.com/putright/putright/price.LawS0448BBounds", spec := "lawS0448BBounds", unfollowed := true, recurses := true, apart := false }
def LawS0448BBoundsSaid : Prop := lawS0448BBoundsRow.holds Yba.pinned (OpenSpec.ofChange lawS0448BBoundsSpec)

/-- ITS FALSE NEIGHBOUR: 'it returns false'. Refute it at one input. -/
def lawS0448BBoundsWrong : ChangeSpec := { name := "lawS0448BBounds", fn := fun _ => fun
  | [d1, d2, d3] => { results := [.lit (.bool false)], args := [d1, d2, d3] }
  | _ => none }
def LawS0448BBoundsWrongFalsely : Prop := lawS0448BBoundsRow.holds Yba.pinned (OpenSpec.ofChange lawS0448BBoundsWrong)

/-- 'status.LawS0448CTable': WHATEVER THE INPUT: true; the input reads as it did. -/
def lawS0448CTableSpec : ChangeSpec := { name := "lawS0448CTable", fn := fun _ => fun
  | [d1, d2, d3, d4, d5] => { results := [.lit (.bool true)], args := [d1, d2, d3, d4, d5] }
  | _ => none }
def lawS0448CTableRow : OpenClaim := { program := "ybulkigg", sum := "4c4a85d28ddcc018334b3caf7bdfbd59c5d1508438e4a12067c6b861523a20cf", func := "example.com/putright/putright/status.LawS0448CTable", spec := "lawS0448CTable", apart := false }
def LawS0448CTableSaid : Prop := lawS0448CTableRow.holds Yba.pinned (OpenSpec.ofChange lawS0448CTableSpec)

/-- ITS FALSE NEIGHBOUR: 'it returns false'. Refute it at one input. -/
def lawS0448CTableWrong : ChangeSpec := { name := "lawS0448CTable", fn := fun _ => fun
  | [d1, d2, d3, d4, d5] => { results := [.lit (.bool false)], args := [d1, d2, d3, d4, d5] }
  | _ => none }
def LawS0448CTableWrongFalsely : Prop := lawS0448CTableRow.holds Yba.pinned (OpenSpec.ofChange lawS0448CTableWrong)

/-- 'status.LawS0448CUntouched': WHATEVER THE INPUT: true; the input reads as it did. -/
def lawS0448CUntouchedSpec : ChangeSpec := { name := "lawS0448CUntouched", fn := fun _ => fun
  | [d1, d2, d3, d4] => { results := [.lit (.bool true)], args := [d1, d2, d3, d4] }
  | _ => none }
def lawS0448CUntouchedRow : OpenClaim := { program := "ybulkigg", sum := "4c4a85d28ddcc018334b3caf7bdfbd59c5d1508438e4a12067c6b861523a20cf", func := "example.com/putright/putright/status.LawS0448CUntouched", spec := "lawS0448CUntouched", apart := false }
def LawS0448CUntouchedSaid : Prop := lawS0448CUntouchedRow.holds Yba.pinned (OpenSpec.ofChange lawS0448CUntouchedSpec)

/-- ITS FALSE NEIGHBOUR: 'it returns false'. Refute it at one input. -/
def lawS0448CUntouchedWrong : ChangeSpec := { name := "lawS0448CUntouched", fn := fun _ => fun
  | [d1, d2, d3, d4] => { results := [.lit (.bool false)], args := [d1, d2, d3, d4] }
  | _ => none }
def LawS0448CUntouchedWrongFalsely : Prop := lawS0448CUntouchedRow.holds Yba.pinned (OpenSpec.ofChange lawS0448CUntouchedWrong)

end Rows
end Go.Proofs.Ybulkigg
