/-
  No cell of these rows narrows 'for every input' (looked for: loops, veiled, ifaces, maps, wideKeys, modest, calm, conditions, laid).
  DERIVED. THE GIVEN ROWS OF THIS SEAT. 1 by the template 'for every input the law returns true; each argument reads behind the call as it read before'; 0 by the template 'total and deterministic' (their statements: YbulkidoTotals.lean).
  GIVEN WITH THE SEED: the statements are not yours to turn. If you find one false, say at which input.
  Laid BY PROGRAM, IN A SANDBOX (cutbox-rows.mjs): the forced cells as the released guide's own fill.sh prints them over the translation 968d0b965106a5e9… (all of the seat's roots in one cut). By AI agents, Wed Nov 11 2026. No macro, syntax, notation, axiom, sorry.
-/
import Derived.Test.YbulkidoChecked
import GoSem.Claim
import GoSem.ClaimJoined
import GoSem.ClaimMapViews
import Derived.JoinedTies
import Derived.KernelRfl
namespace Go.Proofs.Ybulkido
/- THE CELL 'sum', in the pinned program and in every row, IS THE sha256 OF THE DUMP (.gsa) THAT YbulkidoProg.lean LOADS. Nothing in Lean hashes anything: it is a label: what it is worth is what the hold of that sum in a sandbox is worth. -/
noncomputable def Yba.pinned : Pinned := { name := "ybulkido", sum := "968d0b965106a5e93afbdf444ef5b0614849c31abddfad19dc12ffc215ec75a8", checked := Yba.checked }
namespace Rows
def none {H : Type} : Left H := { results := [], args := [] }

/-- 'order.LawS0443ADecide': WHATEVER THE INPUT: true; the input reads as it did. -/
def lawS0443ADecideSpec : ChangeSpec := { name := "lawS0443ADecide", fn := fun _ => fun
  | [d1, d2, d3, d4, d5, d6, d7, d8] => { results := [.lit (.bool true)], args := [d1, d2, d3, d4, d5, d6, d7, d8] }
  | _ => none }
def lawS0443ADecideRow : OpenClaim := { program := "ybulkido", sum := "968d0b965106a5e93afbdf444ef5b0614849c31abddfad19dc12ffc215ec75a8", func := "example.com/tamarisk/tamarisk/internal/order.LawS0443ADecide", spec := "lawS0443ADecide", unfollowed := true, recurses := true, plainKeys := false, apart := false }
def LawS0443ADecideSaid : Prop := lawS0443ADecideRow.holds Yba.pinned (OpenSpec.ofChange lawS0443ADecideSpec)

/-- ITS FALSE NEIGHBOUR: 'it returns false'. Refute it at one input. -/
def lawS0443ADecideWrong : ChangeSpec := { name := "lawS0443ADecide", fn := fun _ => fun
  | [d1, d2, d3, d4, d5, d6, d7, d8] => { results := [.lit (.bool false)], args := [d1, d2, d3, d4, d5, d6, d7, d8] }
  | _ => none }
def LawS0443ADecideWrongFalsely : Prop := lawS0443ADecideRow.holds Yba.pinned (OpenSpec.ofChange lawS0443ADecideWrong)

end Rows
end Go.Proofs.Ybulkido
