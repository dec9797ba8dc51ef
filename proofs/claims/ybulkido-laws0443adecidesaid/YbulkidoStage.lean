/-
  What lies in memory when the law calls mayTakePart.
-/
import Derived.Test.YbulkidoMayA
import Derived.Test.YbulkidoMayC
namespace Go.Proofs.Ybulkido
open Go.ChangeShapes Go.WideShapes Go.ChangeAt Go.RowKit Go.Maps

theorem Stat.below {w w1 : World} {B n : Nat} {rs : Nat → Bool} (h : Stat w B n rs) (hb : Below w.heap.size w w1) : Stat w1 B n rs := by
  obtain ⟨D, hown, h1, h2, h3, h4⟩ := h
  refine ⟨D, ?_, h1, h2, h3, fun i hi => (hb.cell (p := ⟨B + 1 + i, 6, none⟩) (cell_lt (h4 i hi))).trans (h4 i hi)⟩
  obtain ⟨es, clock, he, r⟩ := hown
  exact ⟨es, clock, (hb.block B (Array.getElem?_eq_some_iff.1 he).1).trans he, r⟩

/-- The facts, the blocks named. -/
structure Staged (w W7 : World) (nb rb bc b0 b1 bq B j : Nat) (rs : Nat → Bool) (n f k turn qq q c0 c1 : Int) : Prop where
  env : Env W7 nb rb bc b0 b1 B j rs n f k turn qq q 0 c0 c1
  stat : Stat W7 B j rs
  bel : Below w.heap.size w W7
  q0 : W7.cell? ⟨bq, 0, none⟩ = some (.int .u64 (tw q))
  q1 : W7.cell? ⟨bq, 1, none⟩ = some (.int .i64 (tx q))
  q2 : W7.cell? ⟨bq, 2, none⟩ = some (.pointer none)
  ne1 : nb ≠ bc
  ne2 : rb ≠ bc
  ne3 : b0 ≠ bc
  ne4 : b1 ≠ bc
  ne5 : nb ≠ rb
  ne6 : b1 ≠ rb
  ne7 : b0 ≠ rb
  ne8 : bq ≠ bc
  ne9 : bq ≠ rb
  lc : w.heap.size ≤ bc
  lr : w.heap.size ≤ rb

theorem stage {w W2 wr w5 : World} {j : Nat} {rs : Nat → Bool} {n f k turn qq q c0 c1 : Int} {cs : Array Value}
    (hz2 : W2.heap.size = w.heap.size + 1 + 1) (hb2 : Below w.heap.size w W2) (hc0 : W2.cell? ⟨w.heap.size, 0, none⟩ = some (.int .i32 c0)) (hc1 : W2.cell? ⟨w.heap.size + 1, 0, none⟩ = some (.int .i32 c1))
    (hst : Stat wr W2.heap.size j rs) (hz : wr.heap.size = W2.heap.size + 1 + j) (hb : Below W2.heap.size W2 wr)
    (hcs : cs.size = 136 ∧ cs[1]? = some (.int .i64 n) ∧ cs[2]? = some (.int .i64 f) ∧ cs[3]? = some (.int .i64 k) ∧ cs[4]? = some (.int .i64 turn) ∧ cs[50]? = some (clkOf wr.heap.size w.heap.size (w.heap.size + 1)) ∧ cs[51]? = some (.int .i64 qq))
    (hb5 : Below ((wr.alloc (Obj.cells #[Value.int IntKind.i64 0] 3)).alloc (Obj.cells cs 75)).heap.size ((wr.alloc (Obj.cells #[Value.int IntKind.i64 0] 3)).alloc (Obj.cells cs 75)) w5) :
    ∃ W7, (w5.alloc (Obj.cells #[Value.int IntKind.u64 (tw q), Value.int IntKind.i64 (tx q), Value.pointer none] 35)).alloc
        (Obj.cells #[Value.map (some W2.heap.size), Value.map none, Value.int IntKind.u64 0, Value.slice none 0 0, Value.slice none 0 0, Value.int IntKind.u64 0, Value.int IntKind.i64 0, Value.pointer none,
          Value.int IntKind.u64 (tw q), Value.int IntKind.i64 (tx q), Value.pointer none] 78) = W7 ∧
      Staged w W7 (wr.heap.size + 1) (w5.heap.size + 1) wr.heap.size w.heap.size (w.heap.size + 1) w5.heap.size W2.heap.size j rs n f k turn qq q c0 c1 := by
  refine ⟨_, rfl, ?_⟩
  obtain ⟨_, s1, s2, s3, s4, s50, s51⟩ := hcs
  have hs5 := hb5.size
  simp only [World.size_alloc] at hs5
  -- the world of the two new blocks, and what lies below in w5
  have hbr : Below wr.heap.size wr w5 := (((Below.refl _ _).alloc (Nat.le_refl _) _).alloc (by simp) _).trans (hb5.mono (by simp; omega))
  have hb57 : ∀ (x : Obj) (y : Obj), Below w5.heap.size w5 ((w5.alloc x).alloc y) := fun x y => ((Below.refl _ _).alloc (Nat.le_refl _) _).alloc (by simp) _
  have nc : ∀ (x y : Obj) (o : Nat) (v : Value), cs[o]? = some v → ((w5.alloc x).alloc y).cell? ⟨wr.heap.size + 1, o, none⟩ = some v := by
    intro x y o v hv
    rw [(hb57 x y).cell (p := ⟨wr.heap.size + 1, o, none⟩) (by simp; omega), hb5.cell (p := ⟨wr.heap.size + 1, o, none⟩) (by simp)]
    have : (wr.alloc (Obj.cells #[Value.int IntKind.i64 0] 3)).heap.size = wr.heap.size + 1 := by simp
    rw [← this]
    show (match ((wr.alloc _).alloc (Obj.cells cs 75)).heap[(wr.alloc _).heap.size]? with | some (.cells c _ _) => _ | _ => _) = _
    rw [Go.Deep.blk_alloc_new]
    simpa using hv
  have old : ∀ (x y : Obj) (b o : Nat) (v : Value), W2.cell? ⟨b, o, none⟩ = some v → ((w5.alloc x).alloc y).cell? ⟨b, o, none⟩ = some v := by
    intro x y b o v hv
    have l2 := cell_lt hv
    have hr : wr.cell? ⟨b, o, none⟩ = some v := (hb.cell (p := ⟨b, o, none⟩) l2).trans hv
    rw [(hb57 x y).cell (p := ⟨b, o, none⟩) (by simp; omega), hbr.cell (p := ⟨b, o, none⟩) (by simp; omega)]
    exact hr
  have cc : ∀ (x y : Obj), ((w5.alloc x).alloc y).cell? ⟨wr.heap.size, 0, none⟩ = some (.int .i64 0) ∧ ((w5.alloc x).alloc y).frozen? ⟨wr.heap.size, 0, none⟩ = false := by
    intro x y
    refine ⟨?_, ?_⟩
    · rw [(hb57 x y).cell (p := ⟨wr.heap.size, 0, none⟩) (by simp; omega), hb5.cell (p := ⟨wr.heap.size, 0, none⟩) (by simp; omega)]
      go_simp
    · rw [(hb57 x y).frozen (p := ⟨wr.heap.size, 0, none⟩) (by simp; omega), hb5.frozen (p := ⟨wr.heap.size, 0, none⟩) (by simp; omega)]
      go_simp
  refine ⟨⟨nc _ _ 1 _ s1, nc _ _ 2 _ s2, nc _ _ 3 _ s3, nc _ _ 4 _ s4, nc _ _ 50 _ s50, nc _ _ 51 _ s51, ?_, ?_, ?_, ?_, ?_, ?_, ?_, (cc _ _).1, (cc _ _).2, old _ _ _ _ _ hc0, old _ _ _ _ _ hc1⟩, ?_, ?_, ?_, ?_, ?_, ?_, ?_, ?_, ?_, ?_, ?_, ?_, ?_, ?_, ?_, ?_⟩
  · go_simp
  · go_simp
  · go_simp
  · go_simp
  · go_simp
  · go_simp
  · go_simp
  · exact (hst.below hbr).below (hb57 _ _)
  · exact bel2 (bel2 (bel2 hb2 hb) hbr) (hb57 _ _)
  · go_simp
  · go_simp
  · go_simp
  all_goals omega

/-- What the law finds behind mayTakePart. -/
structure After (w w8 : World) (rb bc b0 b1 bq : Nat) (q c0 c1 calls q' : Int) : Prop where
  k0 : w8.cell? ⟨bc, 0, none⟩ = some (.int .i64 calls)
  r8 : w8.cell? ⟨rb, 8, none⟩ = some (.int .u64 (tw q'))
  r9 : w8.cell? ⟨rb, 9, none⟩ = some (.int .i64 (tx q'))
  r10 : w8.cell? ⟨rb, 10, none⟩ = some (.pointer none)
  q0 : w8.cell? ⟨bq, 0, none⟩ = some (.int .u64 (tw q))
  q1 : w8.cell? ⟨bq, 1, none⟩ = some (.int .i64 (tx q))
  q2 : w8.cell? ⟨bq, 2, none⟩ = some (.pointer none)
  k1 : w8.cell? ⟨b0, 0, none⟩ = some (.int .i32 c0)
  k2 : w8.cell? ⟨b1, 0, none⟩ = some (.int .i32 c1)
  bel : Below w.heap.size w w8

theorem Staged.after {w W7 w8 : World} {nb rb bc b0 b1 bq B j : Nat} {rs : Nat → Bool} {n f k turn qq q c0 c1 calls q' : Int} (h : Staged w W7 nb rb bc b0 b1 bq B j rs n f k turn qq q c0 c1) (t : Took W7 w8 bc rb calls q') :
    After w w8 rb bc b0 b1 bq q c0 c1 calls q' := by
  have kc : ∀ {b o : Nat} {v : Value}, W7.cell? ⟨b, o, none⟩ = some v → b ≠ bc → b ≠ rb → w8.cell? ⟨b, o, none⟩ = some v := fun {b o v} hc h1 h2 =>
    (World.cell?_of_block (w := W7) (a := ⟨b, o, none⟩) (t.block b (cell_lt hc) h1 h2)).trans hc
  have hs := h.bel.size
  exact ⟨t.k0, t.r8, t.r9, t.r10, kc h.q0 h.ne8 h.ne9, kc h.q1 h.ne8 h.ne9, kc h.q2 h.ne8 h.ne9, kc h.env.k1 h.ne3 h.ne7, kc h.env.k2 h.ne4 h.ne6,
    h.bel.trans ⟨t.os, t.tape, t.output, t.size, fun b hb => t.block b (by omega) (by have := h.lc; omega) (by have := h.lr; omega)⟩⟩

theorem Took.of_clock {W7 w8 : World} {nb rb bc b0 b1 B n : Nat} {rs : Nat → Bool} {N F K turn qq q ca c0 c1 : Int} {v : Int} (h : Env W7 nb rb bc b0 b1 B n rs N F K turn qq q ca c0 c1) (ne : rb ≠ bc)
    (hb : Below W7.heap.size (W7.setCell ⟨bc, 0, none⟩ (.int .i64 v)) w8) : Took W7 w8 bc rb v q := by
  obtain ⟨hc, _⟩ := clk_cell hb
  have lr := cell_lt h.r0
  exact ⟨hb.os, hb.tape, hb.output, by simpa using hb.size, fun b hlt h1 _ => (hb.block b hlt).trans (Below.heap_setCell _ _ _ _ (by exact h1)),
    (hb.cell (p := ⟨bc, 0, none⟩) (cell_lt h.k0)).trans (World.cell?_setCell_same _ _ _ h.k0), (hc _ 8 lr ne).trans h.r8, (hc _ 9 lr ne).trans h.r9, (hc _ 10 lr ne).trans h.r10⟩

/-- The world at the law's last statement: 'wantQ' lies in the block bw. -/
structure Fin9 (w W9 : World) (rb bc bw : Nat) (calls q' : Int) : Prop where
  k0 : W9.cell? ⟨bc, 0, none⟩ = some (.int .i64 calls)
  r8 : W9.cell? ⟨rb, 8, none⟩ = some (.int .u64 (tw q'))
  r9 : W9.cell? ⟨rb, 9, none⟩ = some (.int .i64 (tx q'))
  r10 : W9.cell? ⟨rb, 10, none⟩ = some (.pointer none)
  t0 : W9.cell? ⟨bw, 0, none⟩ = some (.int .u64 (tw q'))
  t1 : W9.cell? ⟨bw, 1, none⟩ = some (.int .i64 (tx q'))
  t2 : W9.cell? ⟨bw, 2, none⟩ = some (.pointer none)
  bel : Below w.heap.size w W9

theorem After.fin {w w8 : World} {rb bc b0 b1 bq : Nat} {q c0 c1 calls : Int} (h : After w w8 rb bc b0 b1 bq q c0 c1 calls q) :
    ∃ W9, w8.alloc (Obj.cells #[Value.int IntKind.u64 (tw q), Value.int IntKind.i64 (tx q), Value.pointer none] 35) = W9 ∧ Fin9 w W9 rb bc w8.heap.size calls q := by
  refine ⟨_, rfl, ?_⟩
  have hb : Below w8.heap.size w8 (w8.alloc (Obj.cells #[Value.int IntKind.u64 (tw q), Value.int IntKind.i64 (tx q), Value.pointer none] 35)) := (Below.refl _ _).alloc (Nat.le_refl _) _
  obtain ⟨c, _⟩ := bcell hb
  exact ⟨(c _ _ (cell_lt h.k0)).trans h.k0, (c _ _ (cell_lt h.r8)).trans h.r8, (c _ _ (cell_lt h.r9)).trans h.r9, (c _ _ (cell_lt h.r10)).trans h.r10, by go_simp, by go_simp, by go_simp, bel2 h.bel hb⟩

/-- 'wantQ' is set, cell by cell. -/
def setW (w : World) (b : Nat) (c : Int) : World := ((w.setCell ⟨b, 0, none⟩ (.int .u64 (tw c))).setCell ⟨b, 1, none⟩ (.int .i64 (tx c))).setCell ⟨b, 2, none⟩ (.pointer none)

theorem setW_cells {w : World} {b : Nat} {c : Int} {x y z : Value} (h0 : w.cell? ⟨b, 0, none⟩ = some x) (h1 : w.cell? ⟨b, 1, none⟩ = some y) (h2 : w.cell? ⟨b, 2, none⟩ = some z) :
    (setW w b c).cell? ⟨b, 0, none⟩ = some (.int .u64 (tw c)) ∧ (setW w b c).cell? ⟨b, 1, none⟩ = some (.int .i64 (tx c)) ∧ (setW w b c).cell? ⟨b, 2, none⟩ = some (.pointer none) := by
  unfold setW
  refine ⟨?_, ?_, ?_⟩
  · rw [World.cell?_setCell_other _ _ _ _ (by simp), World.cell?_setCell_other _ _ _ _ (by simp)]
    exact World.cell?_setCell_same _ _ _ h0
  · rw [World.cell?_setCell_other _ _ _ _ (by simp)]
    exact World.cell?_setCell_same _ _ _ (u := y) (by rw [World.cell?_setCell_other _ _ _ _ (by simp)]; exact h1)
  · exact World.cell?_setCell_same _ _ _ (u := z) (by rw [World.cell?_setCell_other _ _ _ _ (by simp), World.cell?_setCell_other _ _ _ _ (by simp)]; exact h2)

theorem setW_kept {p : Nat → Prop} {w : World} {b : Nat} (hb : p b) (c : Int) : Kept p w (setW w b c) := ((Kept.setCell hb _).trans (Kept.setCell hb _)).trans (Kept.setCell hb _)

theorem After.fin2 {w w8 w9 : World} {rb bc b0 b1 bq : Nat} {q c0 c1 calls q' c : Int} (h : After w w8 rb bc b0 b1 bq q c0 c1 calls c)
    (hb9 : Below (w8.alloc (Obj.cells #[Value.int IntKind.u64 (tw q'), Value.int IntKind.i64 (tx q'), Value.pointer none] 35)).heap.size (w8.alloc (Obj.cells #[Value.int IntKind.u64 (tw q'), Value.int IntKind.i64 (tx q'), Value.pointer none] 35)) w9) :
    ∃ W9, setW w9 w8.heap.size c = W9 ∧ Fin9 w W9 rb bc w8.heap.size calls c := by
  refine ⟨_, rfl, ?_⟩
  have hb : Below w8.heap.size w8 w9 := bel2 ((Below.refl _ _).alloc (Nat.le_refl _) _) hb9
  obtain ⟨c8, _⟩ := bcell hb
  obtain ⟨a0, a1, a2, _⟩ := newest3 hb9
  obtain ⟨t0, t1, t2⟩ := setW_cells (c := c) a0 a1 a2
  have hk : Kept (fun b => b = w8.heap.size) w9 (setW w9 w8.heap.size c) := setW_kept (p := fun b => b = w8.heap.size) rfl c
  have kc : ∀ {b o : Nat} {v : Value}, w8.cell? ⟨b, o, none⟩ = some v → (setW w9 w8.heap.size c).cell? ⟨b, o, none⟩ = some v := fun {b o v} hc =>
    hk.cell ((c8 b o (cell_lt hc)).trans hc) (by have := cell_lt hc; omega)
  exact ⟨kc h.k0, kc h.r8, kc h.r9, kc h.r10, t0, t1, t2, (bel2 h.bel hb).trans ⟨hk.os, hk.tape, hk.output, hk.size, fun b hlt => hk.block b (by have := h.bel.size; have := hb.size; omega) (by have := h.bel.size; omega)⟩⟩

theorem After.boxes {w w8 w9 : World} {rb bc b0 b1 bq : Nat} {q c0 c1 calls q' c : Int} (h : After w w8 rb bc b0 b1 bq q c0 c1 calls c)
    (hb9 : Below (w8.alloc (Obj.cells #[Value.int IntKind.u64 (tw q'), Value.int IntKind.i64 (tx q'), Value.pointer none] 35)).heap.size (w8.alloc (Obj.cells #[Value.int IntKind.u64 (tw q'), Value.int IntKind.i64 (tx q'), Value.pointer none] 35)) w9) :
    w9.cell? ⟨b0, 0, none⟩ = some (.int .i32 c0) ∧ w9.cell? ⟨b1, 0, none⟩ = some (.int .i32 c1) := by
  have hb : Below w8.heap.size w8 w9 := bel2 ((Below.refl _ _).alloc (Nat.le_refl _) _) hb9
  obtain ⟨c8, _⟩ := bcell hb
  exact ⟨(c8 _ _ (cell_lt h.k1)).trans h.k1, (c8 _ _ (cell_lt h.k2)).trans h.k2⟩
end Go.Proofs.Ybulkido
