/-
  LawS0444BRun: its input, opened.
-/
import Derived.Test.YbulkiecBase
import Derived.Deep.Slices
import Derived.Deep.Strs
namespace Go.Proofs.Ybulkiec
open Go.ChangeShapes Go.WideShapes Go.ChangeAt Go.RowKit
set_option linter.unusedVariables false

theorem Yba.cells37 : Yba.prog.cellsOf 37 = 3 := by kernel_rfl
theorem Yba.cells5 : Yba.prog.cellsOf 5 = 1 := by kernel_rfl

/-- One operation of the input. -/
theorem open_op {H : Type} {enc : TypeId × Value → H} {w : World} {base : Nat} {spare : Nat → Bool} {held : Bool} {fuel : Nat} {cs : List Value} {x : DataW H × List MemPlace} (h : DataW.trod enc Yba.prog w base spare held fuel 37 cs = some x) :
    ∃ t a y : Int, cs = [.int .u8 t, .int .u8 a, .int .u8 y] ∧ (0 ≤ t ∧ t ≤ 255) ∧ (0 ≤ a ∧ a ≤ 255) ∧ (0 ≤ y ∧ y ≤ 255) := by
  obtain ⟨y0, y1, y2, n, _, hl, h0, h1, h2⟩ := Go.Deep.trod_struct3 Yba.underlying37 h
  rw [Yba.cells37] at hl
  match cs, hl with
  | [c0, c1, c2], _ =>
    obtain ⟨t, e0, _, w0⟩ := DataW.trod_int Yba.underlying5 h0
    obtain ⟨a, e1, _, w1⟩ := DataW.trod_int Yba.underlying5 h1
    obtain ⟨y, e2, _, w2⟩ := DataW.trod_int Yba.underlying5 h2
    simp only [Yba.cells5] at e0 e1 e2
    simp at e0 e1 e2
    subst e0 e1 e2
    simp only [Lit.wf, Bool.and_eq_true, decide_eq_true_eq] at w0 w1 w2
    exact ⟨t, a, y, rfl, w0, w1, w2⟩

/-- The slice of operations. -/
theorem open_ops {H : Type} {enc : TypeId × Value → H} {w : World} {spare : Nat → Bool} {held : Bool} {fuel : Nat} {ao : Option Addr} {len cap : Nat} {x : DataW H × List MemPlace} (h : DataW.trod enc Yba.prog w 0 spare held fuel 22 [.slice ao len cap] = some x) :
    ∃ T A X : Nat → Int, (0 < len → ∃ b off, ao = some ⟨b, off, none⟩ ∧ b < w.heap.size ∧ ∀ j, j < len → w.cell? ⟨b, off + j * 3, none⟩ = some (.int .u8 (T j)) ∧ w.cell? ⟨b, off + j * 3 + 1, none⟩ = some (.int .u8 (A j)) ∧ w.cell? ⟨b, off + j * 3 + 2, none⟩ = some (.int .u8 (X j))) ∧
      ∀ j, j < len → (0 ≤ T j ∧ T j ≤ 255) ∧ (0 ≤ A j ∧ A j ≤ 255) ∧ (0 ≤ X j ∧ X j ≤ 255) := by
  rcases Go.Deep.open_slice Yba.underlying22 h with ⟨hcs, _⟩ | ⟨a, l, c, m, n, D, Pl, hcs, _, hl, hm, hmm, _, hel⟩
  · simp at hcs
    obtain ⟨rfl, rfl, rfl⟩ := hcs
    exact ⟨fun _ => 0, fun _ => 0, fun _ => 0, fun h => absurd h (Nat.lt_irrefl _), fun j hj => absurd hj (Nat.not_lt_zero _)⟩
  · simp at hcs
    obtain ⟨rfl, rfl, rfl⟩ := hcs
    have hlm : len ≤ m := by rw [hmm]; split <;> omega
    have hall : ∀ j, j < len → ∃ p : Int × Int × Int, (w.cell? (a.add (j * 3)) = some (.int .u8 p.1) ∧ w.cell? (a.add (j * 3 + 1)) = some (.int .u8 p.2.1) ∧ w.cell? (a.add (j * 3 + 2)) = some (.int .u8 p.2.2)) ∧ (0 ≤ p.1 ∧ p.1 ≤ 255) ∧ (0 ≤ p.2.1 ∧ p.2.1 ≤ 255) ∧ (0 ≤ p.2.2 ∧ p.2.2 ≤ 255) := fun j hj => by
      obtain ⟨cs', h1, h2⟩ := hel j (by omega)
      rw [Yba.cells37] at h1
      obtain ⟨t, b, y, rfl, r0, r1, r2⟩ := open_op h2
      obtain ⟨_, _, hc⟩ := World.cells?_some h1
      refine ⟨(t, b, y), ⟨?_, ?_, ?_⟩, r0, r1, r2⟩
      · have := hc 0 (by omega); rw [Go.Deep.add_add] at this; exact this
      · have := hc 1 (by omega); rw [Go.Deep.add_add] at this; exact this
      · have := hc 2 (by omega); rw [Go.Deep.add_add] at this; exact this
    obtain ⟨f, hf⟩ := Go.Deep.choose_lt (α := Int × Int × Int) hall
    refine ⟨fun j => (f j).1, fun j => (f j).2.1, fun j => (f j).2.2, fun h0 => ?_, fun j hj => (hf j hj).2⟩
    obtain ⟨b, off, spot⟩ := a
    have hspot : spot = none := by
      have := World.cell?_spot (hf 0 h0).1.1
      simpa [Addr.add] using this
    subst hspot
    refine ⟨b, off, rfl, ?_, fun j hj => ?_⟩
    · have := (hf 0 h0).1.1
      rw [add_plain] at this
      exact cell_lt this
    · obtain ⟨⟨q0, q1, q2⟩, _⟩ := hf j hj
      rw [add_plain] at q0 q1 q2
      exact ⟨q0, by rw [Nat.add_assoc]; exact q1, by rw [Nat.add_assoc]; exact q2⟩
end Go.Proofs.Ybulkiec
