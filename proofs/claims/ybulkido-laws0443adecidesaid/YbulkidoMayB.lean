/-
  (*Node).mayTakePart: the ways that ask the clock.
-/
import Derived.Test.YbulkidoMay
import Derived.Deep.DrawnRows
namespace Go.Proofs.Ybulkido
open Go.ChangeShapes Go.WideShapes Go.ChangeAt Go.RowKit Go.Maps
set_option linter.unusedVariables false
attribute [local go_sem ↓] Go.wp_at_zero Go.wp_at_succ

/-- Behind a call of the clock: a cell of another block than the count's is as it was. -/
theorem clk_cell {W w1 : World} {bc : Nat} {v : Value} (hb : Below W.heap.size (W.setCell ⟨bc, 0, none⟩ v) w1) :
    (∀ b o, b < W.heap.size → b ≠ bc → w1.cell? ⟨b, o, none⟩ = W.cell? ⟨b, o, none⟩) ∧ (∀ b o, b < W.heap.size → b ≠ bc → w1.frozen? ⟨b, o, none⟩ = W.frozen? ⟨b, o, none⟩) := by
  refine ⟨fun b o h1 h2 => ?_, fun b o h1 h2 => ?_⟩
  · rw [hb.cell (p := ⟨b, o, none⟩) h1, World.cell?_of_block (w := W) (Below.heap_setCell _ _ _ _ (by exact h2))]
  · rw [hb.frozen (p := ⟨b, o, none⟩) h1, World.frozen?_of_block (w := W) (Below.heap_setCell _ _ _ _ (by exact h2))]

theorem bel_set {B : Nat} {w w3 : World} (h : Below B w w3) (a : Addr) (v : Value) : Below B (w.setCell a v) (w3.setCell a v) :=
  ⟨h.os, h.tape, h.output, by simpa using h.size, fun k hk => by simp only [World.setCell, Array.getElem?_modify, h.block k hk]⟩

theorem clk_trans {w w3 w4 w5 : World} {bc : Nat} {v : Value} (h : Below w.heap.size w w3) (h4 : Below w3.heap.size (w3.setCell ⟨bc, 0, none⟩ v) w4) (h5 : Below w4.heap.size w4 w5) :
    Below w.heap.size (w.setCell ⟨bc, 0, none⟩ v) w5 :=
  ((bel_set h _ _).trans (h4.mono h.size)).trans (h5.mono (Nat.le_trans h.size (by simpa using h4.size)))

set_option maxRecDepth 100000 in
set_option maxHeartbeats 4000000 in
/-- A time is held already: the clock is asked once. -/
theorem may_wait1 (nb rb bc b0 b1 B n : Nat) (rs : Nat → Bool) (N F K turn qq q c0 c1 : Int) (w : World) (hn : n ≤ 1024) (hst : Stat w B n rs) (he : Env w nb rb bc b0 b1 B n rs N F K turn qq q 0 c0 c1)
    (hF0 : 0 ≤ F) (hF1 : F ≤ 255) (hK0 : 0 ≤ K) (hK1 : K ≤ 255) (hN0 : -128 ≤ N) (hN1 : N ≤ 127) (ht0 : -2147483648 ≤ turn) (ht1 : turn ≤ 2147483647) (hq0 : -2147483648 ≤ q) (hq1 : q ≤ 2147483647) (hc0 : -2147483648 ≤ c0) (hc1 : c0 ≤ 2147483647)
    (ne1 : nb ≠ bc) (ne2 : rb ≠ bc) (ne3 : b0 ≠ bc)
    (hq : ((runs n rs : Nat) : Int) < qq) (h1 : ¬ (n : Int) < qq) (h2 : ¬ (n : Int) - (runs n rs : Nat) < F + K) (h3 : ¬ (0 : Int) < (runs n rs : Nat)) (h4 : ((n : Int) == N - 1) = false) (h5 : (q == 0) = false) :
    Calls Yba.prog 6 #[.pointer (some ⟨nb, 0, none⟩), .pointer (some ⟨rb, 0, none⟩)] w fun e w' => e = .returned (.bool (decide (4 * turn ≤ c0 - q))) ∧ Below w.heap.size (w.setCell ⟨bc, 0, none⟩ (.int .i64 1)) w' := by
  have hrl : ((runs n rs : Nat) : Int) ≤ (n : Int) := by have := runs_le n rs; omega
  have hr0 : (0 : Int) ≤ ((runs n rs : Nat) : Int) := by omega
  have d1 : decide ((n : Int) < qq) = false := decide_eq_false h1
  have d3 : decide ((0 : Int) < (runs n rs : Nat)) = false := decide_eq_false h3
  go_enter Yba.func6, Yba.ntmps6
  go_wp2_with fail
  refine (running_any rb B n rs _ hn he.r0 hst).mono ?_
  rintro e w1 ⟨rfl, hb⟩
  have HB : Hid (Below w.heap.size w w1) := hb
  have hlen := stat_len hst hb
  have hlen0 := fun ty => stat_len hst hb ty 0
  simp only [World.drewN_zero] at hlen0
  have HE : Hid (Env w1 nb rb bc b0 b1 B n rs N F K turn qq q 0 c0 c1) := he.below hb
  obtain ⟨e1, e2, e3, e4, e50, e51, r0, r8, r9, r10, g8, g9, g10, k0, f0, k1, k2⟩ := he.below hb
  clear hb hst he e4 e50 g8 g9 g10 k0 f0 k1 k2
  generalize ((runs n rs : Nat) : Int) = R at *
  go_wp2
  go_quiet (fail)
  go_wp2
  go_quiet (fail)
  go_wp2_with fail
  refine (isZero_T q _).mono ?_
  rintro e w3 ⟨rfl, hb3⟩
  have HB3 : Hid (Below w.heap.size w w3) := bel2 (below_drewN HB.out _) hb3
  have HE3 := (HE.out.below (below_drewN (Below.refl _ _) _)).below hb3
  clear hb3 HB HE hlen hlen0 e1 e2 e3 e51 r0 r8 r9 r10
  have ln := cell_lt HE3.e1
  have lr := cell_lt HE3.r0
  have lc := cell_lt HE3.k0
  have l0 := cell_lt HE3.k1
  obtain ⟨e1, e2, e3, e4, e50, e51, r0, r8, r9, r10, g8, g9, g10, k0, f0, k1, k2⟩ := HE3
  clear e1 e2 e3 e51 r0 g8 g9 g10
  rw [h5]
  have hw4 : IntKind.i64.wrap (4 * turn) = 4 * turn := IntWalk.i64_in _ (by omega)
  go_wp2_with fail
  go_region_held3 (fun w' => w'.cell? ⟨nb, 4, none⟩ = some (.int .i64 turn) ∧ w'.cell? ⟨nb, 50, none⟩ = some (.func (Fn.func 4) #[] #[.pointer (some ⟨bc, 0, none⟩), .pointer (some ⟨b0, 0, none⟩), .pointer (some ⟨b1, 0, none⟩)]) ∧ w'.cell? ⟨rb, 8, none⟩ = some (.int .u64 (tw q)) ∧ w'.cell? ⟨rb, 9, none⟩ = some (.int .i64 (tx q)) ∧ w'.cell? ⟨rb, 10, none⟩ = some (.pointer none)) (first | exact ⟨t1, t2, t3, t4, t5⟩ | exact ⟨s1, s2, s3, s4, s5⟩ | go_keep)
    (first
      | (go_at_call 4; refine (clock0 bc b0 b1 c0 _ (by omega) (by omega) (by exact lc) (by exact l0) ne3 (by exact k0) (by exact f0) (by exact k1)).mono ?_; rintro e w4 ⟨rfl, hb4⟩; have hc4 := (clk_cell hb4).1; have s1 := (hc4 _ 4 ln ne1).trans e4; have s2 := (hc4 _ 50 ln ne1).trans e50; have s3 := (hc4 _ 8 lr ne2).trans r8; have s4 := (hc4 _ 9 lr ne2).trans r9; have s5 := (hc4 _ 10 lr ne2).trans r10; clear hc4)
      | (go_at_call 14; refine (sub_T c0 q _ (by omega) (by omega) (by omega) (by omega)).mono ?_; rintro e w5 ⟨rfl, hb5⟩; have hc5 := (bcell hb5).1; have t1 := (hc5 _ 4 (cell_lt s1)).trans s1; have t2 := (hc5 _ 50 (cell_lt s2)).trans s2; have t3 := (hc5 _ 8 (cell_lt s3)).trans s3; have t4 := (hc5 _ 9 (cell_lt s4)).trans s4; have t5 := (hc5 _ 10 (cell_lt s5)).trans s5; clear hc5))
  have HF : Hid (Below w.heap.size (w.setCell ⟨bc, 0, none⟩ (.int .i64 1)) w5) := clk_trans HB3.out.drew hb4 hb5
  clear hb4 hb5 s1 s2 s3 s4 s5 t1 t2 t3 t4 t5 e4 e50 r8 r9 r10 k0 f0 k1 k2
  go_wp2
  go_ret
  exact ⟨rfl, HF.out⟩

/-- w' is w with new blocks, and with writes into blocks of p alone. -/
structure Kept (p : Nat → Prop) (w w' : World) : Prop where
  os : w'.os = w.os
  tape : w'.tape = w.tape
  output : w'.output = w.output
  size : w.heap.size ≤ w'.heap.size
  block : ∀ b, b < w.heap.size → ¬ p b → w'.heap[b]? = w.heap[b]?

theorem Kept.trans {p : Nat → Prop} {a b c : World} (h : Kept p a b) (k : Kept p b c) : Kept p a c :=
  ⟨k.os.trans h.os, k.tape.trans h.tape, k.output.trans h.output, Nat.le_trans h.size k.size, fun i hi hn => (k.block i (Nat.lt_of_lt_of_le hi h.size) hn).trans (h.block i hi hn)⟩
theorem Kept.of_below {p : Nat → Prop} {w w' : World} (h : Below w.heap.size w w') : Kept p w w' := ⟨h.os, h.tape, h.output, h.size, fun b hb _ => h.block b hb⟩
theorem Kept.setCell {p : Nat → Prop} {w : World} {b o : Nat} (hb : p b) (v : Value) : Kept p w (w.setCell ⟨b, o, none⟩ v) :=
  ⟨rfl, rfl, rfl, by simp, fun i _ hn => Below.heap_setCell _ _ _ _ (fun e => hn (by rw [e]; exact hb))⟩
theorem Kept.drew {p : Nat → Prop} {w w' : World} (h : Kept p w w') : Kept p w w'.drew := ⟨h.os, h.tape, h.output, h.size, h.block⟩

/-- The rejoin's time is set, cell by cell. -/
def setT (w : World) (rb : Nat) (c : Int) : World := ((w.setCell ⟨rb, 8, none⟩ (.int .u64 (tw c))).setCell ⟨rb, 9, none⟩ (.int .i64 (tx c))).setCell ⟨rb, 10, none⟩ (.pointer none)

theorem setT_kept {p : Nat → Prop} {w : World} {rb : Nat} (hb : p rb) (c : Int) : Kept p w (setT w rb c) := ((Kept.setCell hb _).trans (Kept.setCell hb _)).trans (Kept.setCell hb _)

theorem setT_cells {w : World} {rb : Nat} {c : Int} {x y z : Value} (h8 : w.cell? ⟨rb, 8, none⟩ = some x) (h9 : w.cell? ⟨rb, 9, none⟩ = some y) (h10 : w.cell? ⟨rb, 10, none⟩ = some z) :
    (setT w rb c).cell? ⟨rb, 8, none⟩ = some (.int .u64 (tw c)) ∧ (setT w rb c).cell? ⟨rb, 9, none⟩ = some (.int .i64 (tx c)) ∧ (setT w rb c).cell? ⟨rb, 10, none⟩ = some (.pointer none) := by
  unfold setT
  refine ⟨?_, ?_, ?_⟩
  · rw [World.cell?_setCell_other _ _ _ _ (by simp), World.cell?_setCell_other _ _ _ _ (by simp)]
    exact World.cell?_setCell_same _ _ _ h8
  · rw [World.cell?_setCell_other _ _ _ _ (by simp)]
    exact World.cell?_setCell_same _ _ _ (u := y) (by rw [World.cell?_setCell_other _ _ _ _ (by simp)]; exact h9)
  · exact World.cell?_setCell_same _ _ _ (u := z) (by rw [World.cell?_setCell_other _ _ _ _ (by simp), World.cell?_setCell_other _ _ _ _ (by simp)]; exact h10)

theorem Kept.cell {p : Nat → Prop} {w w' : World} (h : Kept p w w') {b o : Nat} {v : Value} (hc : w.cell? ⟨b, o, none⟩ = some v) (hn : ¬ p b) : w'.cell? ⟨b, o, none⟩ = some v :=
  (World.cell?_of_block (w := w) (a := ⟨b, o, none⟩) (h.block b (cell_lt hc) hn)).trans hc
theorem Kept.frozen {p : Nat → Prop} {w w' : World} (h : Kept p w w') {b o : Nat} (hb : b < w.heap.size) (hn : ¬ p b) : w'.frozen? ⟨b, o, none⟩ = w.frozen? ⟨b, o, none⟩ :=
  World.frozen?_of_block (w := w) (a := ⟨b, o, none⟩) (h.block b hb hn)
end Go.Proofs.Ybulkido
