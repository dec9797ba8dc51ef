/-
  Small laws on worlds, for both laws of this seat.
-/
import Derived.Test.YbulkiecRows
import Derived.WalkKit
import Derived.ProofKit
import Derived.OpenShut
import Derived.Deep.OwnRows
import Derived.Deep.QuietTactic
import Derived.BigQuiet
import Derived.WalkLawsBesides
import Derived.Deep.AppendLies
import Derived.Deep.RegionHeld3
import Derived.Deep.DrawnRows
namespace Go.Proofs.Ybulkiec
open Go.ChangeShapes Go.WideShapes Go.ChangeAt Go.RowKit

theorem hid {p : Prop} (h : p) : Hid p := h

theorem cell_lt {w : World} {b o : Nat} {v : Value} (h : w.cell? ⟨b, o, none⟩ = some v) : b < w.heap.size := by
  unfold World.cell? at h
  split at h
  · rename_i hb
    exact (Array.getElem?_eq_some_iff.1 hb).1
  · cases h

theorem bel2 {w W w1 : World} (h : Below w.heap.size w W) (hb : Below W.heap.size W w1) : Below w.heap.size w w1 := h.trans (hb.mono h.size)

theorem bcell {W w1 : World} (hb : Below W.heap.size W w1) : (∀ b o, b < W.heap.size → w1.cell? ⟨b, o, none⟩ = W.cell? ⟨b, o, none⟩) ∧ (∀ b o, b < W.heap.size → w1.frozen? ⟨b, o, none⟩ = W.frozen? ⟨b, o, none⟩) :=
  ⟨fun b o h => hb.cell (p := ⟨b, o, none⟩) h, fun b o h => hb.frozen (p := ⟨b, o, none⟩) h⟩

/-- w' is w with new blocks, and with writes into blocks of p alone. -/
structure Kept (p : Nat → Prop) (w w' : World) : Prop where
  os : w'.os = w.os
  tape : w'.tape = w.tape
  output : w'.output = w.output
  size : w.heap.size ≤ w'.heap.size
  block : ∀ b, b < w.heap.size → ¬ p b → w'.heap[b]? = w.heap[b]?

theorem Kept.refl (p : Nat → Prop) (w : World) : Kept p w w := ⟨rfl, rfl, rfl, Nat.le_refl _, fun _ _ _ => rfl⟩
theorem Kept.trans {p : Nat → Prop} {a b c : World} (h : Kept p a b) (k : Kept p b c) : Kept p a c :=
  ⟨k.os.trans h.os, k.tape.trans h.tape, k.output.trans h.output, Nat.le_trans h.size k.size, fun i hi hn => (k.block i (Nat.lt_of_lt_of_le hi h.size) hn).trans (h.block i hi hn)⟩
theorem Kept.of_below {p : Nat → Prop} {w w' : World} (h : Below w.heap.size w w') : Kept p w w' := ⟨h.os, h.tape, h.output, h.size, fun b hb _ => h.block b hb⟩
theorem Kept.setCell {p : Nat → Prop} {w : World} {b o : Nat} (hb : p b) (v : Value) : Kept p w (w.setCell ⟨b, o, none⟩ v) :=
  ⟨rfl, rfl, rfl, by simp, fun i _ hn => Below.heap_setCell _ _ _ _ (fun e => hn (by rw [e]; exact hb))⟩
theorem Kept.drew {p : Nat → Prop} {w w' : World} (h : Kept p w w') : Kept p w w'.drew := ⟨h.os, h.tape, h.output, h.size, h.block⟩
theorem Kept.drewN {p : Nat → Prop} {w w' : World} (h : Kept p w w') (n : Nat) : Kept p w (w'.drewN n) := ⟨h.os, h.tape, h.output, h.size, h.block⟩
theorem Kept.alloc {p : Nat → Prop} {w w' : World} (h : Kept p w w') (o : Obj) : Kept p w (w'.alloc o) := h.trans (Kept.of_below ((Below.refl _ _).alloc (Nat.le_refl _) _))
theorem Kept.grown {p : Nat → Prop} {w w' : World} {row : Option Nat} (hg : w.grownBy w' row) (hr : ∀ k, row = some k → p k) : Kept p w w' :=
  ⟨hg.os, hg.tape, hg.output, hg.size, fun b hb hn => hg.block b hb (fun e => hn (hr b e.symm))⟩
theorem Kept.mono {p q : Nat → Prop} {w w' : World} (h : Kept p w w') (hpq : ∀ b, p b → q b) : Kept q w w' := ⟨h.os, h.tape, h.output, h.size, fun b hb hn => h.block b hb (fun hp => hn (hpq b hp))⟩
theorem Kept.cell {p : Nat → Prop} {w w' : World} (h : Kept p w w') {b o : Nat} {v : Value} (hc : w.cell? ⟨b, o, none⟩ = some v) (hn : ¬ p b) : w'.cell? ⟨b, o, none⟩ = some v :=
  (World.cell?_of_block (w := w) (a := ⟨b, o, none⟩) (h.block b (cell_lt hc) hn)).trans hc
theorem Kept.frozen {p : Nat → Prop} {w w' : World} (h : Kept p w w') {b o : Nat} (hb : b < w.heap.size) (hn : ¬ p b) : w'.frozen? ⟨b, o, none⟩ = w.frozen? ⟨b, o, none⟩ :=
  World.frozen?_of_block (w := w) (a := ⟨b, o, none⟩) (h.block b hb hn)
theorem Kept.below {p : Nat → Prop} {B : Nat} {w w' : World} (h : Kept p w w') (hB : B ≤ w.heap.size) (hp : ∀ b, b < B → ¬ p b) : Below B w w' := ⟨h.os, h.tape, h.output, h.size, fun b hb => h.block b (Nat.lt_of_lt_of_le hb hB) (hp b hb)⟩

theorem Yba.info3 : (Yba.prog.info? 3).map (fun i => (i.zero, i.size, i.bytes)) = some (some (.int .i64 0), 1, 8) := by kernel_rfl
end Go.Proofs.Ybulkiec
