/-
  LawS0444BRun: an event equals itself.
-/
import Derived.Test.YbulkiecLr
import Derived.Deep.Cut
import Derived.Deep.CutRange
import Derived.Deep.CutBlock
namespace Go.Proofs.Ybulkiec
open Go.ChangeShapes Go.WideShapes Go.ChangeAt Go.RowKit
set_option linter.unusedVariables false
attribute [local go_sem ↓] Go.wp_at_zero Go.wp_at_succ

set_option maxRecDepth 100000 in
set_option maxHeartbeats 4000000 in
theorem beq_run (e : Ev) (w : World) :
    Calls Yba.prog 7 #[.agg #[.int .u8 e.kind, .int .u8 0, .int .i64 e.step, .string e.txn, .int .u8 e.act, .string e.item, .slice none 0 0, .slice none 0 0, .int .i64 0, .int .i64 0, .string e.eitem, .string e.writer], .agg #[.int .u8 e.kind, .int .u8 0, .int .i64 e.step, .string e.txn, .int .u8 e.act, .string e.item, .slice none 0 0, .slice none 0 0, .int .i64 0, .int .i64 0, .string e.eitem, .string e.writer]] w fun r w' =>
      r = .returned (.bool true) ∧ Below w.heap.size w w' := by
  obtain ⟨k, st, t, a, it, ei, wr⟩ := e
  dsimp only
  go_enter Yba.func7, Yba.ntmps7
  go_wp2
  go_ret
  exact ⟨rfl, ((Below.refl _ _).alloc (Nat.le_refl _) _).alloc (by simp) _⟩

/-- The twelve cells of the k-th event of a row. -/
theorem ev_row {wr : World} {g : Nat} {l : List Ev} (h : ∀ j, j < l.length * 12 → wr.cell? ⟨g, j, none⟩ = (evs l)[j]?) (k : Nat) (hk : k < l.length) (e : Ev) (he : l[k]'hk = e) :
    wr.cell? ⟨g, k * 12, none⟩ = some (.int .u8 e.kind) ∧ wr.cell? ⟨g, k * 12 + 1, none⟩ = some (.int .u8 0) ∧ wr.cell? ⟨g, k * 12 + 2, none⟩ = some (.int .i64 e.step) ∧ wr.cell? ⟨g, k * 12 + 3, none⟩ = some (.string e.txn) ∧ wr.cell? ⟨g, k * 12 + 4, none⟩ = some (.int .u8 e.act) ∧ wr.cell? ⟨g, k * 12 + 5, none⟩ = some (.string e.item) ∧
    wr.cell? ⟨g, k * 12 + 6, none⟩ = some (.slice none 0 0) ∧ wr.cell? ⟨g, k * 12 + 7, none⟩ = some (.slice none 0 0) ∧ wr.cell? ⟨g, k * 12 + 8, none⟩ = some (.int .i64 0) ∧ wr.cell? ⟨g, k * 12 + 9, none⟩ = some (.int .i64 0) ∧ wr.cell? ⟨g, k * 12 + 10, none⟩ = some (.string e.eitem) ∧ wr.cell? ⟨g, k * 12 + 11, none⟩ = some (.string e.writer) := by
  subst he
  have q : ∀ j, j < 12 → wr.cell? ⟨g, k * 12 + j, none⟩ = (l[k]'hk).cells[j]? := fun j hj => (h (k * 12 + j) (by omega)).trans (evs_get l k hk j hj)
  exact ⟨q 0 (by omega), q 1 (by omega), q 2 (by omega), q 3 (by omega), q 4 (by omega), q 5 (by omega), q 6 (by omega), q 7 (by omega), q 8 (by omega), q 9 (by omega), q 10 (by omega), q 11 (by omega)⟩

/-- What the comparisons read of both memories. -/
theorem both_row {w : World} {E : Env} {F : MEnv} {s m : St} {V U : Nat → Value} (h : Both w E F s m V U) (hr : m.reads = s.reads) (hw : m.ws = s.ws) {t : Nat} (ht : t < 3) :
    ∃ a1 c1 a2 c2 a3 c3 a4 c4, w.cell? ⟨E.brd, t, none⟩ = some (.slice a1 (s.reads t).length c1) ∧ w.cell? ⟨F.mr, t, none⟩ = some (.slice a2 (s.reads t).length c2) ∧ w.cell? ⟨E.bws, t, none⟩ = some (.slice a3 (s.ws t).length c3) ∧ w.cell? ⟨F.ms, t, none⟩ = some (.slice a4 (s.ws t).length c4) ∧
      (0 < (s.reads t).length → ∃ g, a1 = some ⟨g, 0, none⟩ ∧ ∀ j, j < (s.reads t).length → w.cell? ⟨g, j, none⟩ = some (.int .i64 (((s.reads t).getD j 0 : Nat) : Int))) ∧
      (0 < (s.reads t).length → ∃ g, a2 = some ⟨g, 0, none⟩ ∧ ∀ j, j < (s.reads t).length → w.cell? ⟨g, j, none⟩ = some (.int .i64 (((s.reads t).getD j 0 : Nat) : Int))) ∧
      (0 < (s.ws t).length → ∃ g, a3 = some ⟨g, 0, none⟩ ∧ ∀ j, j < (s.ws t).length → w.cell? ⟨g, j, none⟩ = some (.int .i64 (((s.ws t).getD j 0 : Nat) : Int))) ∧
      (0 < (s.ws t).length → ∃ g, a4 = some ⟨g, 0, none⟩ ∧ ∀ j, j < (s.ws t).length → w.cell? ⟨g, j, none⟩ = some (.int .i64 (((s.ws t).getD j 0 : Nat) : Int))) := by
  have o2 := h.mm.own_rd ht
  have o4 := h.mm.own_ws ht
  rw [hr] at o2
  rw [hw] at o4
  obtain ⟨a1, c1, v1, r1⟩ := row_shape (h.pm.own_rd ht)
  obtain ⟨a2, c2, v2, r2⟩ := row_shape o2
  obtain ⟨a3, c3, v3, r3⟩ := row_shape (h.pm.own_ws ht)
  obtain ⟨a4, c4, v4, r4⟩ := row_shape o4
  refine ⟨a1, c1, a2, c2, a3, c3, a4, c4, by rw [← v1]; exact h.pm.fix.rd.cell ht, by rw [← v2]; exact h.mm.fix.rd.cell ht, by rw [← v3]; exact h.pm.fix.ws.cell ht, by rw [← v4]; exact h.mm.fix.ws.cell ht, fun h0 => ?_, fun h0 => ?_, fun h0 => ?_, fun h0 => ?_⟩
  · obtain ⟨g, e1, e2, e3⟩ := r1 h0
    exact ⟨g, e1, fun j hj => (e3 j (by omega)).trans (ints_get _ _ hj)⟩
  · obtain ⟨g, e1, e2, e3⟩ := r2 h0
    exact ⟨g, e1, fun j hj => (e3 j (by omega)).trans (ints_get _ _ hj)⟩
  · obtain ⟨g, e1, e2, e3⟩ := r3 h0
    exact ⟨g, e1, fun j hj => (e3 j (by omega)).trans (ints_get _ _ hj)⟩
  · obtain ⟨g, e1, e2, e3⟩ := r4 h0
    exact ⟨g, e1, fun j hj => (e3 j (by omega)).trans (ints_get _ _ hj)⟩
theorem quiet2 {P : Program} {f : FuncId} {args : Array Value} {w : World} {nq x : Nat} {v : Value} (h : Calls P f args (w.drewN (nq + x)) fun e w' => e = .returned v ∧ ∃ m, w' = (w.drewN (nq + x)).drewN m) : Calls P f args (w.drewN (nq + x)) fun e w'' => e = .returned v ∧ ∃ n, w'' = w.drewN (nq + n) :=
  h.mono fun _ _ ⟨he, m, hm⟩ => ⟨he, x + m, by rw [hm, World.drewN_drewN, Nat.add_assoc]⟩
theorem Yba.info68 : (Yba.prog.info? 68).map (fun i => (i.zero, i.size, i.bytes)) = some (some (.agg #[.int .i64 0, .int .i64 0]), 2, 16) := by kernel_rfl
end Go.Proofs.Ybulkiec
