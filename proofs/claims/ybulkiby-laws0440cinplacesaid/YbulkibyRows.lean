/-
  No cell of these rows narrows 'for every input' (looked for: loops, veiled, ifaces, maps, wideKeys, modest, calm, conditions, laid).
  DERIVED. THE GIVEN ROWS OF THIS SEAT. 4 by the template 'for every input the law returns true; each argument reads behind the call as it read before'; 0 by the template 'total and deterministic' (their statements: YbulkibyTotals.lean).
  GIVEN WITH THE SEED: the statements are not yours to turn. If you find one false, say at which input.
  Laid BY PROGRAM, IN A SANDBOX (cutbox-rows.mjs): the forced cells as the released guide's own fill.sh prints them over the translation cbf1a999bf89d296… (all of the seat's roots in one cut). By AI agents, Wed Nov 11 2026. No macro, syntax, notation, axiom, sorry.
-/
import Derived.Test.YbulkibyChecked
import GoSem.Claim
import GoSem.ClaimJoined
import GoSem.ClaimMapViews
import Derived.JoinedTies
import Derived.KernelRfl
namespace Go.Proofs.Ybulkiby
/- THE CELL 'sum', in the pinned program and in every row, IS THE sha256 OF THE DUMP (.gsa) THAT YbulkibyProg.lean LOADS. Nothing in Lean hashes anything: it is a label: what it is worth is what the hold of that sum in a sandbox is worth. -/
noncomputable def Yba.pinned : Pinned := { name := "ybulkiby", sum := "cbf1a999bf89d2967f75373e6268383ac70d224b3f02034b6a0344c758722cf4", checked := Yba.checked }
namespace Rows
def none {H : Type} : Left H := { results := [], args := [] }

/-- 'slotwise.LawS0440BBrute': WHATEVER THE INPUT: true; the input reads as it did. -/
def lawS0440BBruteSpec : ChangeSpec := { name := "lawS0440BBrute", fn := fun _ => fun
  | [d1, d2] => { results := [.lit (.bool true)], args := [d1, d2] }
  | _ => none }
def lawS0440BBruteRow : OpenClaim := { program := "ybulkiby", sum := "cbf1a999bf89d2967f75373e6268383ac70d224b3f02034b6a0344c758722cf4", func := "example.com/slotwise/slotwise.LawS0440BBrute", spec := "lawS0440BBrute", apart := false }
def LawS0440BBruteSaid : Prop := lawS0440BBruteRow.holds Yba.pinned (OpenSpec.ofChange lawS0440BBruteSpec)

/-- ITS FALSE NEIGHBOUR: 'it returns false'. Refute it at one input. -/
def lawS0440BBruteWrong : ChangeSpec := { name := "lawS0440BBrute", fn := fun _ => fun
  | [d1, d2] => { results := [.lit (.bool false)], args := [d1, d2] }
  | _ => none }
def LawS0440BBruteWrongFalsely : Prop := lawS0440BBruteRow.holds Yba.pinned (OpenSpec.ofChange lawS0440BBruteWrong)

/-- 'slotwise.LawS0440BDivides': WHATEVER THE INPUT: true; the input reads as it did. -/
def lawS0440BDividesSpec : ChangeSpec := { name := "lawS0440BDivides", fn := fun _ => fun
  | [d1, d2] => { results := [.lit (.bool true)], args := [d1, d2] }
  | _ => none }
def lawS0440BDividesRow : OpenClaim := { program := "ybulkiby", sum := "cbf1a999bf89d2967f75373e6268383ac70d224b3f02034b6a0344c758722cf4", func := "example.com/slotwise/slotwise.LawS0440BDivides", spec := "lawS0440BDivides", apart := false }
def LawS0440BDividesSaid : Prop := lawS0440BDividesRow.holds Yba.pinned (OpenSpec.ofChange lawS0440BDividesSpec)

/-- ITS FALSE NEIGHBOUR: 'it returns false'. Refute it at one input. -/
def lawS0440BDividesWrong : ChangeSpec := { name := "lawS0440BDivides", fn := fun _ => fun
  | [d1, d2] => { results := [.lit (.bool false)], args := [d1, d2] }
  | _ => none }
def LawS0440BDividesWrongFalsely : Prop := lawS0440BDividesRow.holds Yba.pinned (OpenSpec.ofChange lawS0440BDividesWrong)

/-- 'slotwise.LawS0440CAdds': WHATEVER THE INPUT: true; the input reads as it did. -/
def lawS0440CAddsSpec : ChangeSpec := { name := "lawS0440CAdds", fn := fun _ => fun
  | [d1, d2, d3] => { results := [.lit (.bool true)], args := [d1, d2, d3] }
  | _ => none }
def lawS0440CAddsRow : OpenClaim := { program := "ybulkiby", sum := "cbf1a999bf89d2967f75373e6268383ac70d224b3f02034b6a0344c758722cf4", func := "example.com/slotwise/slotwise.LawS0440CAdds", spec := "lawS0440CAdds", apart := false }
def LawS0440CAddsSaid : Prop := lawS0440CAddsRow.holds Yba.pinned (OpenSpec.ofChange lawS0440CAddsSpec)

/-- ITS FALSE NEIGHBOUR: 'it returns false'. Refute it at one input. -/
def lawS0440CAddsWrong : ChangeSpec := { name := "lawS0440CAdds", fn := fun _ => fun
  | [d1, d2, d3] => { results := [.lit (.bool false)], args := [d1, d2, d3] }
  | _ => none }
def LawS0440CAddsWrongFalsely : Prop := lawS0440CAddsRow.holds Yba.pinned (OpenSpec.ofChange lawS0440CAddsWrong)

/-- 'slotwise.LawS0440CInPlace': WHATEVER THE INPUT: true; the input reads as it did. -/
def lawS0440CInPlaceSpec : ChangeSpec := { name := "lawS0440CInPlace", fn := fun _ => fun
  | [d1, d2, d3] => { results := [.lit (.bool true)], args := [d1, d2, d3] }
  | _ => none }
def lawS0440CInPlaceRow : OpenClaim := { program := "ybulkiby", sum := "cbf1a999bf89d2967f75373e6268383ac70d224b3f02034b6a0344c758722cf4", func := "example.com/slotwise/slotwise.LawS0440CInPlace", spec := "lawS0440CInPlace", apart := false }
def LawS0440CInPlaceSaid : Prop := lawS0440CInPlaceRow.holds Yba.pinned (OpenSpec.ofChange lawS0440CInPlaceSpec)

/-- ITS FALSE NEIGHBOUR: 'it returns false'. Refute it at one input. -/
def lawS0440CInPlaceWrong : ChangeSpec := { name := "lawS0440CInPlace", fn := fun _ => fun
  | [d1, d2, d3] => { results := [.lit (.bool false)], args := [d1, d2, d3] }
  | _ => none }
def LawS0440CInPlaceWrongFalsely : Prop := lawS0440CInPlaceRow.holds Yba.pinned (OpenSpec.ofChange lawS0440CInPlaceWrong)

end Rows
end Go.Proofs.Ybulkiby
