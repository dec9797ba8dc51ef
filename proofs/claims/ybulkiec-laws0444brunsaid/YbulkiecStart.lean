/-
  LawS0444BRun: the law's own memory ahead of its first loop.
-/
import Derived.Test.YbulkiecPlain
namespace Go.Proofs.Ybulkiec
open Go.ChangeShapes Go.WideShapes Go.ChangeAt Go.RowKit
set_option linter.unusedVariables false
attribute [local go_sem ↓] Go.wp_at_zero Go.wp_at_succ

theorem Yba.info39 : (Yba.prog.info? 39).map (fun i => (i.zero, i.size, i.bytes)) = some (some (.agg #[.string ByteArray.empty, .int .u8 0, .string ByteArray.empty]), 3, 40) := by kernel_rfl

def nmOf : Nat → ByteArray
  | 0 => ⟨#[84, 48]⟩
  | 1 => ⟨#[84, 49]⟩
  | _ => ⟨#[84, 50]⟩
def itOf : Nat → ByteArray
  | 0 => ⟨#[120]⟩
  | 1 => ⟨#[121]⟩
  | _ => ⟨#[122]⟩

/-- What make lays for the operations. -/
theorem made3 (w : World) (n : Nat) : ∃ f, (w.alloc (.cells (madeCells #[Value.string ByteArray.empty, .int .u8 0, .string ByteArray.empty] (n * 3)) 39)).rowIs w.heap.size 39 (n * 3) f := by
  have h := World.rowIs_alloc w (madeCells #[Value.string ByteArray.empty, .int .u8 0, .string ByteArray.empty] (n * 3)) 39 (fun i => (madeCells #[Value.string ByteArray.empty, .int .u8 0, .string ByteArray.empty] (n * 3)).getD i undef) (fun i hi => by
    rw [Array.getElem?_eq_getElem hi]
    simp [Array.getD, hi])
  rw [size_madeCells] at h
  exact ⟨_, h⟩

theorem mk27 (n : Nat) (hn : n ≤ 300) (w : World) : (Instr.makeSlice 27 (.int .i64 (n : Int)) (.int .i64 (n : Int))).run Yba.prog w = .ok (.slice (some ⟨w.heap.size, 0, none⟩) n n) (w.alloc (.cells (madeCells #[Value.string ByteArray.empty, .int .u8 0, .string ByteArray.empty] (n * 3)) 39)) := by
  obtain ⟨i, hi, hz, hs, hb⟩ := info_parts Yba.info39
  have hr := run_make (P := Yba.prog) w 27 39 i _ Yba.underlying27 hi hz .i64 .i64 (n : Int) (n : Int) (by omega) (Int.le_refl _) (by rw [hb]; omega) (by omega)
  rw [hs, Int.toNat_natCast] at hr
  exact hr

/-! ### The input, turned -/
def txOf (T : Nat → Int) (j : Nat) : Nat := (T j % 3).toNat
def acOf (A : Nat → Int) (j : Nat) : Int := A j % 4 + 1
def ioOf (A X : Nat → Int) (j : Nat) : Int := if A j % 4 < 2 then X j % 3 else -1
def itmOf (A X : Nat → Int) (j : Nat) : ByteArray := if A j % 4 < 2 then itOf (X j % 3).toNat else ⟨#[]⟩
/-- Cell c of the operations. -/
def opCell (T A X : Nat → Int) (c : Nat) : Value := if c % 3 = 0 then .string (nmOf (txOf T (c / 3))) else if c % 3 = 1 then .int .u8 (acOf A (c / 3)) else .string (itmOf A X (c / 3))

/-- Behind k rounds of the first loop. -/
structure L1 (w wr : World) (N n : Nat) (T A X : Nat → Int) (k : Nat) : Prop where
  bel : Below N w wr
  size : wr.heap.size = N + 7
  nm : wr.rowIs N 9 3 (fun t => .string (nmOf t))
  im : wr.rowIs (N + 1) 9 3 (fun t => .string (itOf t))
  acts : wr.rowIs (N + 2) 25 4 (fun t => .int .u8 ((t : Int) + 1))
  ops : ∃ f, wr.rowIs (N + 3) 39 (n * 3) f ∧ ∀ c, c < k * 3 → f c = opCell T A X c
  sc : ∃ f, wr.rowIs (N + 4) 35 8 f ∧ f 0 = .slice (some ⟨N + 3, 0, none⟩) n n
  tx : ∃ f, wr.rowIs (N + 5) 3 n f ∧ ∀ c, c < k → f c = .int .i64 (txOf T c : Int)
  io : ∃ f, wr.rowIs (N + 6) 3 n f ∧ ∀ c, c < k → f c = .int .i64 (ioOf A X c)

theorem L1_start (w : World) (n : Nat) (T A X : Nat → Int) :
    L1 w (((((((w.alloc (Obj.cells #[Value.string { data := #[84, 48] }, Value.string { data := #[84, 49] }, Value.string { data := #[84, 50] }] 9)).alloc
      (Obj.cells #[Value.string { data := #[120] }, Value.string { data := #[121] }, Value.string { data := #[122] }] 9)).alloc
      (Obj.cells #[Value.int IntKind.u8 1, Value.int IntKind.u8 2, Value.int IntKind.u8 3, Value.int IntKind.u8 4] 25)).alloc
      (Obj.cells (madeCells #[Value.string ByteArray.empty, Value.int IntKind.u8 0, Value.string ByteArray.empty] (n * 3)) 39)).alloc
      (Obj.cells #[Value.slice (some { block := w.heap.size + 1 + 1 + 1, off := 0 }) n n, Value.string { data := #[] }, Value.slice none 0 0, Value.slice none 0 0, Value.slice none 0 0, Value.slice none 0 0, Value.slice none 0 0, Value.slice none 0 0] 35)).alloc
      (Obj.cells (madeCells #[Value.int IntKind.i64 0] n) 3)).alloc (Obj.cells (madeCells #[Value.int IntKind.i64 0] n) 3)) w.heap.size n T A X 0 := by
  have hb : ∀ (w' : World) (o : Obj), Below w.heap.size w w' → Below w.heap.size w (w'.alloc o) := fun w' o h => h.alloc h.size _
  have r0 := World.rowIs_alloc w #[Value.string { data := #[84, 48] }, Value.string { data := #[84, 49] }, Value.string { data := #[84, 50] }] 9 (fun t => .string (nmOf t)) (fun i hi => by
    match i, hi with
    | 0, _ => rfl
    | 1, _ => rfl
    | 2, _ => rfl)
  generalize e1 : w.alloc (Obj.cells #[Value.string { data := #[84, 48] }, Value.string { data := #[84, 49] }, Value.string { data := #[84, 50] }] 9) = w1 at *
  have z1 : w1.heap.size = w.heap.size + 1 := by rw [← e1]; simp
  have r1 := World.rowIs_alloc w1 #[Value.string { data := #[120] }, Value.string { data := #[121] }, Value.string { data := #[122] }] 9 (fun t => .string (itOf t)) (fun i hi => by
    match i, hi with
    | 0, _ => rfl
    | 1, _ => rfl
    | 2, _ => rfl)
  rw [z1] at r1
  replace r0 := r0.alloc (Obj.cells #[Value.string { data := #[120] }, Value.string { data := #[121] }, Value.string { data := #[122] }] 9)
  have b1 : Below w.heap.size w w1 := by rw [← e1]; exact hb _ _ (Below.refl _ _)
  replace b1 := hb _ (Obj.cells #[Value.string { data := #[120] }, Value.string { data := #[121] }, Value.string { data := #[122] }] 9) b1
  generalize e2 : w1.alloc (Obj.cells #[Value.string { data := #[120] }, Value.string { data := #[121] }, Value.string { data := #[122] }] 9) = w2 at *
  have z2 : w2.heap.size = w.heap.size + 2 := by rw [← e2]; simp [z1]
  have r2 := World.rowIs_alloc w2 #[Value.int IntKind.u8 1, Value.int IntKind.u8 2, Value.int IntKind.u8 3, Value.int IntKind.u8 4] 25 (fun t => .int .u8 ((t : Int) + 1)) (fun i hi => by
    match i, hi with
    | 0, _ => rfl
    | 1, _ => rfl
    | 2, _ => rfl
    | 3, _ => rfl)
  rw [z2] at r2
  replace r0 := r0.alloc (Obj.cells #[Value.int IntKind.u8 1, Value.int IntKind.u8 2, Value.int IntKind.u8 3, Value.int IntKind.u8 4] 25)
  replace r1 := r1.alloc (Obj.cells #[Value.int IntKind.u8 1, Value.int IntKind.u8 2, Value.int IntKind.u8 3, Value.int IntKind.u8 4] 25)
  replace b1 := hb _ (Obj.cells #[Value.int IntKind.u8 1, Value.int IntKind.u8 2, Value.int IntKind.u8 3, Value.int IntKind.u8 4] 25) b1
  generalize e3 : w2.alloc (Obj.cells #[Value.int IntKind.u8 1, Value.int IntKind.u8 2, Value.int IntKind.u8 3, Value.int IntKind.u8 4] 25) = w3 at *
  have z3 : w3.heap.size = w.heap.size + 3 := by rw [← e3]; simp [z2]
  obtain ⟨f3, r3⟩ := made3 w3 n
  rw [z3] at r3
  replace r0 := r0.alloc (Obj.cells (madeCells #[Value.string ByteArray.empty, Value.int IntKind.u8 0, Value.string ByteArray.empty] (n * 3)) 39)
  replace r1 := r1.alloc (Obj.cells (madeCells #[Value.string ByteArray.empty, Value.int IntKind.u8 0, Value.string ByteArray.empty] (n * 3)) 39)
  replace r2 := r2.alloc (Obj.cells (madeCells #[Value.string ByteArray.empty, Value.int IntKind.u8 0, Value.string ByteArray.empty] (n * 3)) 39)
  replace b1 := hb _ (Obj.cells (madeCells #[Value.string ByteArray.empty, Value.int IntKind.u8 0, Value.string ByteArray.empty] (n * 3)) 39) b1
  generalize e4 : w3.alloc (Obj.cells (madeCells #[Value.string ByteArray.empty, Value.int IntKind.u8 0, Value.string ByteArray.empty] (n * 3)) 39) = w4 at *
  have z4 : w4.heap.size = w.heap.size + 4 := by rw [← e4]; simp [z3]
  have r4 := World.rowIs_alloc w4 #[Value.slice (some { block := w.heap.size + 1 + 1 + 1, off := 0 }) n n, Value.string { data := #[] }, Value.slice none 0 0, Value.slice none 0 0, Value.slice none 0 0, Value.slice none 0 0, Value.slice none 0 0, Value.slice none 0 0] 35 (fun t => (#[Value.slice (some { block := w.heap.size + 1 + 1 + 1, off := 0 }) n n, Value.string { data := #[] }, Value.slice none 0 0, Value.slice none 0 0, Value.slice none 0 0, Value.slice none 0 0, Value.slice none 0 0, Value.slice none 0 0] : Array Value).getD t undef) (fun i hi => by
    rw [Array.getElem?_eq_getElem hi]
    simp only [Array.getD, hi, dif_pos]
    rfl)
  rw [z4] at r4
  obtain ⟨f4, r4, h4⟩ : ∃ f, (w4.alloc (Obj.cells #[Value.slice (some { block := w.heap.size + 1 + 1 + 1, off := 0 }) n n, Value.string { data := #[] }, Value.slice none 0 0, Value.slice none 0 0, Value.slice none 0 0, Value.slice none 0 0, Value.slice none 0 0, Value.slice none 0 0] 35)).rowIs (w.heap.size + 4) 35 8 f ∧ f 0 = .slice (some ⟨w.heap.size + 3, 0, none⟩) n n := ⟨_, r4, rfl⟩
  replace r0 := r0.alloc (Obj.cells #[Value.slice (some { block := w.heap.size + 1 + 1 + 1, off := 0 }) n n, Value.string { data := #[] }, Value.slice none 0 0, Value.slice none 0 0, Value.slice none 0 0, Value.slice none 0 0, Value.slice none 0 0, Value.slice none 0 0] 35)
  replace r1 := r1.alloc (Obj.cells #[Value.slice (some { block := w.heap.size + 1 + 1 + 1, off := 0 }) n n, Value.string { data := #[] }, Value.slice none 0 0, Value.slice none 0 0, Value.slice none 0 0, Value.slice none 0 0, Value.slice none 0 0, Value.slice none 0 0] 35)
  replace r2 := r2.alloc (Obj.cells #[Value.slice (some { block := w.heap.size + 1 + 1 + 1, off := 0 }) n n, Value.string { data := #[] }, Value.slice none 0 0, Value.slice none 0 0, Value.slice none 0 0, Value.slice none 0 0, Value.slice none 0 0, Value.slice none 0 0] 35)
  replace r3 := r3.alloc (Obj.cells #[Value.slice (some { block := w.heap.size + 1 + 1 + 1, off := 0 }) n n, Value.string { data := #[] }, Value.slice none 0 0, Value.slice none 0 0, Value.slice none 0 0, Value.slice none 0 0, Value.slice none 0 0, Value.slice none 0 0] 35)
  replace b1 := hb _ (Obj.cells #[Value.slice (some { block := w.heap.size + 1 + 1 + 1, off := 0 }) n n, Value.string { data := #[] }, Value.slice none 0 0, Value.slice none 0 0, Value.slice none 0 0, Value.slice none 0 0, Value.slice none 0 0, Value.slice none 0 0] 35) b1
  generalize e5 : w4.alloc (Obj.cells #[Value.slice (some { block := w.heap.size + 1 + 1 + 1, off := 0 }) n n, Value.string { data := #[] }, Value.slice none 0 0, Value.slice none 0 0, Value.slice none 0 0, Value.slice none 0 0, Value.slice none 0 0, Value.slice none 0 0] 35) = w5 at *
  have z5 : w5.heap.size = w.heap.size + 5 := by rw [← e5]; simp [z4]
  have r5 := World.rowIs_made w5 (.int .i64 0) n 3
  rw [z5] at r5
  replace r0 := r0.alloc (Obj.cells (madeCells #[Value.int IntKind.i64 0] n) 3)
  replace r1 := r1.alloc (Obj.cells (madeCells #[Value.int IntKind.i64 0] n) 3)
  replace r2 := r2.alloc (Obj.cells (madeCells #[Value.int IntKind.i64 0] n) 3)
  replace r3 := r3.alloc (Obj.cells (madeCells #[Value.int IntKind.i64 0] n) 3)
  replace r4 := r4.alloc (Obj.cells (madeCells #[Value.int IntKind.i64 0] n) 3)
  replace b1 := hb _ (Obj.cells (madeCells #[Value.int IntKind.i64 0] n) 3) b1
  generalize e6 : w5.alloc (Obj.cells (madeCells #[Value.int IntKind.i64 0] n) 3) = w6 at *
  have z6 : w6.heap.size = w.heap.size + 6 := by rw [← e6]; simp [z5]
  have r6 := World.rowIs_made w6 (.int .i64 0) n 3
  rw [z6] at r6
  exact ⟨hb _ _ b1, by simp [z6], r0.alloc _, r1.alloc _, r2.alloc _, ⟨f3, r3.alloc _, fun c hc => by omega⟩, ⟨f4, r4.alloc _, h4⟩, ⟨_, r5.alloc _, fun c hc => by omega⟩, ⟨_, r6, fun c hc => by omega⟩⟩

end Go.Proofs.Ybulkiec
