/-
  The Node that the law builds: what the walk needs of its 136 cells.
-/
import Derived.Test.YbulkidoFill
namespace Go.Proofs.Ybulkido
open Go.ChangeShapes Go.WideShapes Go.ChangeAt Go.RowKit Go.Maps

/-- The composite literal at the operation: its value is handed in. -/
theorem wpList_build {P : Program} (w : World) {ops : Array Oper} {rest : List Oper} {o : Oper} {a : Act} {Q : Exit → Act → World → Prop}
    (hg : o.guard = none) (t : TypeId) (parts : Array (Nat × Operand)) (hop : o.op = Op.build t parts) (vs : Array (Nat × Value)) (hvs : (parts.map fun p => (p.1, a.eval p.2)) = vs)
    (v : Value) (hrun : (Instr.build t vs).run P w = .ok v w) (hK : wpList P ops Q rest (a.put o.dst v) w) :
    wpList P ops Q (o :: rest) a w := by
  refine wpList_plain hg fun K hK' => ?_
  unfold Oper.wp
  simp only [execOp, hop, hvs]
  simp [hrun, Result.andThen]
  exact hK' _ _ hK

def clkOf (bc b0 b1 : Nat) : Value := .func (Fn.func 4) #[] #[.pointer (some ⟨bc, 0, none⟩), .pointer (some ⟨b0, 0, none⟩), .pointer (some ⟨b1, 0, none⟩)]

def valOf : Result Value → Value
  | .ok v _ => v
  | _ => undef

/-- The two composite literals of '&Node{p: Params{..}, clock: clk, quorum: qq}', and the cells that are read later. -/
theorem node_val (n f k turn qq : Int) (bc b0 b1 : Nat) : ∃ (pv : Value) (cs : Array Value),
    (∀ w, (Instr.build 50 #[(1, .int .i64 n), (2, .int .i64 f), (3, .int .i64 k), (4, .int .i64 turn)]).run Yba.prog w = .ok pv w) ∧
    (∀ w, (Instr.build 75 #[(0, pv), (2, clkOf bc b0 b1), (3, .int .i64 qq)]).run Yba.prog w = .ok (.agg cs) w) ∧
    cs.size = 136 ∧ cs[1]? = some (.int .i64 n) ∧ cs[2]? = some (.int .i64 f) ∧ cs[3]? = some (.int .i64 k) ∧ cs[4]? = some (.int .i64 turn) ∧ cs[50]? = some (clkOf bc b0 b1) ∧ cs[51]? = some (.int .i64 qq) := by
  refine ⟨valOf ((Instr.build 50 #[(1, .int .i64 n), (2, .int .i64 f), (3, .int .i64 k), (4, .int .i64 turn)]).run Yba.prog default),
    (valOf ((Instr.build 75 #[(0, valOf ((Instr.build 50 #[(1, .int .i64 n), (2, .int .i64 f), (3, .int .i64 k), (4, .int .i64 turn)]).run Yba.prog default)), (2, clkOf bc b0 b1), (3, .int .i64 qq)]).run Yba.prog default)).cells, ?_, ?_, ?_, ?_, ?_, ?_, ?_, ?_, ?_⟩
  · intro w
    kernel_rfl
  · intro w
    kernel_rfl
  · kernel_rfl
  · kernel_rfl
  · kernel_rfl
  · kernel_rfl
  · kernel_rfl
  · kernel_rfl
  · kernel_rfl
end Go.Proofs.Ybulkido
