/-
  LawS0444BRun: the seven blocks of the law's first loop, under letters.
-/
import Derived.Test.YbulkiecStart
namespace Go.Proofs.Ybulkiec
open Go.ChangeShapes Go.WideShapes Go.ChangeAt Go.RowKit
set_option linter.unusedVariables false

/-- The seven blocks: names, items, actions, operations, schedule, txnOf, itemOf. -/
structure R7 (w wr : World) (N b1 b2 b3 b4 b5 b6 n : Nat) (fo ft fi : Nat → Value) : Prop where
  o1 : b1 = N + 1
  o2 : b2 = N + 2
  o3 : b3 = N + 3
  o4 : b4 = N + 4
  o5 : b5 = N + 5
  o6 : b6 = N + 6
  bel : Below N w wr
  old : N ≤ w.heap.size
  size : wr.heap.size = N + 7
  nm : wr.rowIs N 9 3 (fun t => .string (nmOf t))
  im : wr.rowIs b1 9 3 (fun t => .string (itOf t))
  acts : wr.rowIs b2 25 4 (fun t => .int .u8 ((t : Int) + 1))
  ops : wr.rowIs b3 39 (n * 3) fo
  sc : ∃ f, wr.rowIs b4 35 8 f ∧ f 0 = .slice (some ⟨b3, 0, none⟩) n n
  tx : wr.rowIs b5 3 n ft
  io : wr.rowIs b6 3 n fi

section
variable {w wr : World} {N b1 b2 b3 b4 b5 b6 n : Nat} {fo ft fi : Nat → Value}

theorem R7.drew (h : R7 w wr N b1 b2 b3 b4 b5 b6 n fo ft fi) : R7 w wr.drew N b1 b2 b3 b4 b5 b6 n fo ft fi := by
  obtain ⟨fs, hs, hs0⟩ := h.sc
  exact ⟨h.o1, h.o2, h.o3, h.o4, h.o5, h.o6, h.bel.drew, h.old, h.size, h.nm, h.im, h.acts, h.ops, ⟨fs, hs, hs0⟩, h.tx, h.io⟩

theorem R7.setT (h : R7 w wr N b1 b2 b3 b4 b5 b6 n fo ft fi) (k : Nat) (v : Value) : R7 w (wr.setCell ⟨b5, k, none⟩ v) N b1 b2 b3 b4 b5 b6 n fo (fun j => if j = k then v else ft j) fi := by
  obtain ⟨fs, hs, hs0⟩ := h.sc
  obtain ⟨o1, o2, o3, o4, o5, o6, bel, old, size, nm, im, acts, ops, _, tx, io⟩ := h
  exact ⟨o1, o2, o3, o4, o5, o6, bel.setCell (by show N ≤ b5; omega) _, old, by simp [size], nm.setOther (by show N ≠ b5; omega) _, im.setOther (by show b1 ≠ b5; omega) _, acts.setOther (by show b2 ≠ b5; omega) _, ops.setOther (by show b3 ≠ b5; omega) _, ⟨fs, hs.setOther (by show b4 ≠ b5; omega) _, hs0⟩, tx.set k v, io.setOther (by show b6 ≠ b5; omega) _⟩

theorem R7.setI (h : R7 w wr N b1 b2 b3 b4 b5 b6 n fo ft fi) (k : Nat) (v : Value) : R7 w (wr.setCell ⟨b6, k, none⟩ v) N b1 b2 b3 b4 b5 b6 n fo ft (fun j => if j = k then v else fi j) := by
  obtain ⟨fs, hs, hs0⟩ := h.sc
  obtain ⟨o1, o2, o3, o4, o5, o6, bel, old, size, nm, im, acts, ops, _, tx, io⟩ := h
  exact ⟨o1, o2, o3, o4, o5, o6, bel.setCell (by show N ≤ b6; omega) _, old, by simp [size], nm.setOther (by show N ≠ b6; omega) _, im.setOther (by show b1 ≠ b6; omega) _, acts.setOther (by show b2 ≠ b6; omega) _, ops.setOther (by show b3 ≠ b6; omega) _, ⟨fs, hs.setOther (by show b4 ≠ b6; omega) _, hs0⟩, tx.setOther (by show b5 ≠ b6; omega) _, io.set k v⟩

theorem R7.setO (h : R7 w wr N b1 b2 b3 b4 b5 b6 n fo ft fi) (k : Nat) (v : Value) : R7 w (wr.setCell ⟨b3, k, none⟩ v) N b1 b2 b3 b4 b5 b6 n (fun j => if j = k then v else fo j) ft fi := by
  obtain ⟨fs, hs, hs0⟩ := h.sc
  obtain ⟨o1, o2, o3, o4, o5, o6, bel, old, size, nm, im, acts, ops, _, tx, io⟩ := h
  exact ⟨o1, o2, o3, o4, o5, o6, bel.setCell (by show N ≤ b3; omega) _, old, by simp [size], nm.setOther (by show N ≠ b3; omega) _, im.setOther (by show b1 ≠ b3; omega) _, acts.setOther (by show b2 ≠ b3; omega) _, ops.set k v, ⟨fs, hs.setOther (by show b4 ≠ b3; omega) _, hs0⟩, tx.setOther (by show b5 ≠ b3; omega) _, io.setOther (by show b6 ≠ b3; omega) _⟩

theorem R7.sched (h : R7 w wr N b1 b2 b3 b4 b5 b6 n fo ft fi) : wr.cell? ⟨b4, 0, none⟩ = some (.slice (some ⟨b3, 0, none⟩) n n) := by
  obtain ⟨fs, hs, hs0⟩ := h.sc
  rw [← hs0]; exact hs.cell (by omega)
end

/-- What the rows hold behind k rounds. -/
structure Done (T A X : Nat → Int) (k : Nat) (fo ft fi : Nat → Value) : Prop where
  o : ∀ c, c < k * 3 → fo c = opCell T A X c
  t : ∀ c, c < k → ft c = .int .i64 (txOf T c : Int)
  i : ∀ c, c < k → fi c = .int .i64 (ioOf A X c)

theorem R7_start (w : World) (n : Nat) (T A X : Nat → Int) {wr : World} (h : L1 w wr w.heap.size n T A X 0) : ∃ fo ft fi, R7 w wr w.heap.size (w.heap.size + 1) (w.heap.size + 2) (w.heap.size + 3) (w.heap.size + 4) (w.heap.size + 5) (w.heap.size + 6) n fo ft fi ∧ Done T A X 0 fo ft fi := by
  obtain ⟨fo, h1, h2⟩ := h.ops
  obtain ⟨ft, h3, h4⟩ := h.tx
  obtain ⟨fi, h5, h6⟩ := h.io
  exact ⟨fo, ft, fi, ⟨rfl, rfl, rfl, rfl, rfl, rfl, h.bel, Nat.le_refl _, h.size, h.nm, h.im, h.acts, h1, h.sc, h3, h5⟩, ⟨h2, h4, h6⟩⟩

theorem Done.step {T A X : Nat → Int} {k : Nat} {fo ft fi go gt gi : Nat → Value} (h : Done T A X k fo ft fi) (ho : ∀ c, c < k * 3 → go c = fo c) (h0 : go (k * 3) = .string (nmOf (txOf T k))) (h1 : go (k * 3 + 1) = .int .u8 (acOf A k)) (h2 : go (k * 3 + 2) = .string (itmOf A X k))
    (ht : ∀ c, c < k → gt c = ft c) (ht0 : gt k = .int .i64 (txOf T k : Int)) (hi : ∀ c, c < k → gi c = fi c) (hi0 : gi k = .int .i64 (ioOf A X k)) : Done T A X (k + 1) go gt gi := by
  refine ⟨fun c hc => ?_, fun c hc => ?_, fun c hc => ?_⟩
  · by_cases e : c < k * 3
    · rw [ho c e]; exact h.o c e
    · rcases (by omega : c = k * 3 ∨ c = k * 3 + 1 ∨ c = k * 3 + 2) with rfl | rfl | rfl
      · rw [h0]; unfold opCell; rw [if_pos (by omega), show k * 3 / 3 = k by omega]
      · rw [h1]; unfold opCell; rw [if_neg (by omega), if_pos (by omega), show (k * 3 + 1) / 3 = k by omega]
      · rw [h2]; unfold opCell; rw [if_neg (by omega), if_neg (by omega), show (k * 3 + 2) / 3 = k by omega]
  · by_cases e : c < k
    · rw [ht c e]; exact h.t c e
    · rw [show c = k by omega]; exact ht0
  · by_cases e : c < k
    · rw [hi c e]; exact h.i c e
    · rw [show c = k by omega]; exact hi0
end Go.Proofs.Ybulkiec
