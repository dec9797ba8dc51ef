/-
  LawS0444BRun: its yield, emit, executed, deferred, endRun, runAgain.
-/
import Derived.Test.YbulkiecPush
namespace Go.Proofs.Ybulkiec
open Go.ChangeShapes Go.WideShapes Go.ChangeAt Go.RowKit
set_option linter.unusedVariables false
attribute [local go_sem ↓] Go.wp_at_zero Go.wp_at_succ

theorem Yba.info60 : (Yba.prog.info? 60).map (fun i => (i.zero, i.size, i.bytes)) = some (some (.agg #[.int .u8 0, .int .u8 0, .int .i64 0, .string ByteArray.empty, .int .u8 0, .string ByteArray.empty, .slice none 0 0, .slice none 0 0, .int .i64 0, .int .i64 0, .string ByteArray.empty, .string ByteArray.empty]), 12, 152) := by kernel_rfl

theorem ev_one (e : Ev) : ∀ u ∈ e.cells, u.oneCell' = true := by
  intro u hu
  simp only [Ev.cells, List.mem_cons, List.not_mem_nil, or_false] at hu
  rcases hu with rfl | rfl | rfl | rfl | rfl | rfl | rfl | rfl | rfl | rfl | rfl | rfl <;> rfl

/-- The cells of the newest block but one. -/
theorem news_new (w : World) (o : Obj) (cs : Array Value) (t : TypeId) : ∀ (j : Nat) (u : Value), cs.toList[j]? = some u → ((w.alloc o).alloc (Obj.cells cs t)).cell? ((⟨w.heap.size + 1, 0, none⟩ : Addr).add j) = some u := by
  have h := World.news_of_block (w := (w.alloc o).alloc (Obj.cells cs t)) (B := (w.alloc o).heap.size) (cs := cs) (t := t) (fr := (0, 0)) (heap_alloc_new _ _)
  rw [World.size_alloc] at h
  exact h

set_option maxRecDepth 100000 in
set_option maxHeartbeats 1000000 in
/-- The law's yield: the event is appended to 'got'. -/
theorem yield5 (E : Env) (s : St) (V : Nat → Value) (e : Ev) (w : World) (hl : Lay E) (h : PM w E s V) (hev : s.ev.length ≤ 1000000) :
    Calls Yba.prog 5 #[.agg #[.int .u8 e.kind, .int .u8 0, .int .i64 e.step, .string e.txn, .int .u8 e.act, .string e.item, .slice none 0 0, .slice none 0 0, .int .i64 0, .int .i64 0, .string e.eitem, .string e.writer], .pointer (some ⟨E.bg, 0, none⟩)] w fun r w' =>
      r = .returned (.bool true) ∧ ∃ V', PM w' E { s with ev := s.ev ++ [e] } V' ∧ Step E w V w' V' ∧ ∀ j, j ≠ 0 → V' j = V j := by
  obtain ⟨i0, hi, hz0, hz1, hz2⟩ := info_parts Yba.info60
  have c0 : w.cell? ⟨E.bg, 0, none⟩ = some (V 0) := h.fix.got.cell (by omega)
  have f0 := h.fix.got.frozen 0
  have hown : w.ownsRow E.base 60 12 (V 0) s.ev.length (evs s.ev) := h.bank.own 0 (by decide)
  have hsz := h.fix.size
  have lg := cell_lt c0
  have hbg : E.bg < E.base := by obtain ⟨l1, l2, l3, l4, l5, l6, l7, l8, l9, l10, l11, l12, l13, l14, l15, l16, _⟩ := hl; omega
  have HP := hid h
  clear h
  go_enter Yba.func5, Yba.ntmps5
  go_wp2_with (at_builtin; refine wpList_append_lies _ rfl _ _ 40 rfl E.base 60 i0 _ 12 152 Yba.underlying40 hi hz0 hz1 hz2 rfl (by decide) _ _ _ rfl ((hown.alloc _).alloc _) ⟨w.heap.size + 1, 0, none⟩ 1 1 e.cells rfl rfl (news_new _ _ _ _) (ev_one e) (by decide) (by unfold maxLen; omega) (by omega) (by simp; omega) (w.heap.size + 2) (by simp) ?_)
  intro g cap w1 hown1 hg1 hat hlt
  obtain ⟨hp, hs⟩ := (HP.out.below hl (((Below.refl _ _).alloc (Nat.le_refl _) _).alloc (by simp) _)).push_ev hl e hown1 hg1 hat (by simp)
  have hk : Kept (fun b => E.base ≤ b) w w1 := (((Kept.refl _ _).alloc _).alloc _).trans (Kept.grown hg1 (fun k he => (hown.lt k he).1))
  have c1 := hk.cell c0 (by omega)
  have f1 := (hk.frozen (o := 0) lg (by omega)).trans f0
  have HR := hid (show ∃ V', PM (w1.setCell ⟨E.bg, 0, none⟩ (.slice (some ⟨g, 0, none⟩) (s.ev.length + 1) cap)) E { s with ev := s.ev ++ [e] } V' ∧ Step E w V (w1.setCell ⟨E.bg, 0, none⟩ (.slice (some ⟨g, 0, none⟩) (s.ev.length + 1) cap)) V' ∧ ∀ j, j ≠ 0 → V' j = V j from
    ⟨_, hp, (Step.of_below (((Below.refl _ _).alloc (Nat.le_refl _) _).alloc (by simp) _)).trans hs, fun j hj => upd_other _ hj _⟩)
  clear hp hs hk hown1 hg1 hat hlt hown HP c0 f0
  go_wp2
  go_ret
  exact ⟨rfl, HR.out⟩

set_option maxRecDepth 100000 in
set_option maxHeartbeats 4000000 in
/-- (*driver).emit: the driver never stops here. -/
theorem emit_run (E : Env) (s : St) (V : Nat → Value) (e : Ev) (w : World) (hl : Lay E) (h : PM w E s V) (hev : s.ev.length ≤ 1000000) :
    Calls Yba.prog 10 #[.pointer (some ⟨E.br, 0, none⟩), .agg #[.int .u8 e.kind, .int .u8 0, .int .i64 e.step, .string e.txn, .int .u8 e.act, .string e.item, .slice none 0 0, .slice none 0 0, .int .i64 0, .int .i64 0, .string e.eitem, .string e.writer]] w fun r w' =>
      r = .returned (.tuple #[]) ∧ ∃ V', PM w' E { s with ev := s.ev ++ [e] } V' ∧ Step E w V w' V' ∧ ∀ j, j ≠ 0 → V' j = V j := by
  obtain ⟨W, hW⟩ : ∃ W, W = w.alloc (Obj.cells #[.int .u8 e.kind, .int .u8 0, .int .i64 e.step, .string e.txn, .int .u8 e.act, .string e.item, .slice none 0 0, .slice none 0 0, .int .i64 0, .int .i64 0, .string e.eitem, .string e.writer] 60) := ⟨_, rfl⟩
  have hbel : Below w.heap.size w W := by rw [hW]; exact (Below.refl _ _).alloc (Nat.le_refl _) _
  have HP := hid (h.below hl hbel)
  have HS := hid (Step.of_below (E := E) (V := V) hbel)
  have HB : Hid (W.cell? ⟨w.heap.size, 0, none⟩ = some (.int .u8 e.kind) ∧ W.cell? ⟨w.heap.size, 1, none⟩ = some (.int .u8 0) ∧ W.cell? ⟨w.heap.size, 2, none⟩ = some (.int .i64 e.step) ∧ W.cell? ⟨w.heap.size, 3, none⟩ = some (.string e.txn) ∧ W.cell? ⟨w.heap.size, 4, none⟩ = some (.int .u8 e.act) ∧ W.cell? ⟨w.heap.size, 5, none⟩ = some (.string e.item) ∧
      W.cell? ⟨w.heap.size, 6, none⟩ = some (.slice none 0 0) ∧ W.cell? ⟨w.heap.size, 7, none⟩ = some (.slice none 0 0) ∧ W.cell? ⟨w.heap.size, 8, none⟩ = some (.int .i64 0) ∧ W.cell? ⟨w.heap.size, 9, none⟩ = some (.int .i64 0) ∧ W.cell? ⟨w.heap.size, 10, none⟩ = some (.string e.eitem) ∧ W.cell? ⟨w.heap.size, 11, none⟩ = some (.string e.writer)) := by
    rw [hW]
    refine ⟨?_, ?_, ?_, ?_, ?_, ?_, ?_, ?_, ?_, ?_, ?_, ?_⟩ <;> go_simp
  have HW := hid hW.symm
  have c9 : w.cell? ⟨E.br, 9, none⟩ = some (.bool false) := h.fix.r.cell (by omega)
  have HF : Hid (¬ Foot E V w.heap.size) := fun hf => by
    have hsz := h.fix.size
    obtain ⟨l1, l2, l3, l4, l5, l6, l7, l8, l9, l10, l11, l12, l13, l14, l15, l16, _⟩ := hl
    rcases hf with hf | ⟨j, hj, hf⟩
    · unfold fixed at hf
      omega
    · have := ((h.bank.own j hj).lt _ hf).2
      omega
  have lr := cell_lt c9
  clear hbel hW h
  go_enter Yba.func10, Yba.ntmps10
  go_wp2_with fail
  rw [HW.out]
  clear HW c9
  generalize w.heap.size = bx at *
  have c8 : W.cell? ⟨E.br, 8, none⟩ = some (.func (Fn.func 5) #[] #[.pointer (some ⟨E.bg, 0, none⟩)]) := HP.out.fix.r.cell (by omega)
  obtain ⟨p0, p1, p2, p3, p4, p5, p6, p7, p8, p9, p10, p11⟩ := HB.out
  clear HB
  go_region_held3 (fun w' => w'.cell? ⟨E.br, 8, none⟩ = some (.func (Fn.func 5) #[] #[.pointer (some ⟨E.bg, 0, none⟩)]) ∧ w'.cell? ⟨bx, 0, none⟩ = some (.int .u8 e.kind) ∧ w'.cell? ⟨bx, 1, none⟩ = some (.int .u8 0) ∧ w'.cell? ⟨bx, 2, none⟩ = some (.int .i64 e.step) ∧ w'.cell? ⟨bx, 3, none⟩ = some (.string e.txn) ∧ w'.cell? ⟨bx, 4, none⟩ = some (.int .u8 e.act) ∧ w'.cell? ⟨bx, 5, none⟩ = some (.string e.item) ∧
      w'.cell? ⟨bx, 6, none⟩ = some (.slice none 0 0) ∧ w'.cell? ⟨bx, 7, none⟩ = some (.slice none 0 0) ∧ w'.cell? ⟨bx, 8, none⟩ = some (.int .i64 0) ∧ w'.cell? ⟨bx, 9, none⟩ = some (.int .i64 0) ∧ w'.cell? ⟨bx, 10, none⟩ = some (.string e.eitem) ∧ w'.cell? ⟨bx, 11, none⟩ = some (.string e.writer)) (first | exact ⟨s8, s0, s1, s2, s3, s4, s5, s6, s7, t8, s9, s10, s11⟩ | go_keep | (refine ⟨?_, ?_, ?_, ?_, ?_, ?_, ?_, ?_, ?_, ?_, ?_, ?_, ?_⟩ <;> (rw [World.cell?_setCell_other _ _ _ _ (by first | (simp; done) | (simp; omega))]; assumption)))
    (first | (go_at_call 5; refine (yield5 E s V e _ hl (by exact HP.out.below hl (Below.refl _ _).drew) hev).mono ?_; rintro r w2 ⟨rfl, V2, hp2, hs2, hv2⟩; have s8 : w2.cell? ⟨E.br, 8, none⟩ = some (.func (Fn.func 5) #[] #[.pointer (some ⟨E.bg, 0, none⟩)]) := hp2.fix.r.cell (by omega); have s0 := hs2.kept.cell (by exact p0) HF.out; have s1 := hs2.kept.cell (by exact p1) HF.out; have s2 := hs2.kept.cell (by exact p2) HF.out; have s3 := hs2.kept.cell (by exact p3) HF.out; have s4 := hs2.kept.cell (by exact p4) HF.out; have s5 := hs2.kept.cell (by exact p5) HF.out; have s6 := hs2.kept.cell (by exact p6) HF.out; have s7 := hs2.kept.cell (by exact p7) HF.out; have t8 := hs2.kept.cell (by exact p8) HF.out; have s9 := hs2.kept.cell (by exact p9) HF.out; have s10 := hs2.kept.cell (by exact p10) HF.out; have s11 := hs2.kept.cell (by exact p11) HF.out; have q9 : w2.cell? ⟨E.br, 9, none⟩ = some (.bool false) := hp2.fix.r.cell (by omega); have g9 := hp2.fix.r.frozen 9))
  have HR : Hid (∃ V', PM (w2.setCell ⟨E.br, 9, none⟩ (.bool false)) E { s with ev := s.ev ++ [e] } V' ∧ Step E w V (w2.setCell ⟨E.br, 9, none⟩ (.bool false)) V' ∧ ∀ j, j ≠ 0 → V' j = V j) := by
    obtain ⟨h1, h2⟩ := hp2.set_stop hl
    exact ⟨V2, h1, (HS.out.trans ((Step.of_below (Below.refl _ _).drew).trans hs2)).trans h2, hv2⟩
  clear hp2 hs2 hv2 s8 s0 s1 s2 s3 s4 s5 s6 s7 t8 s9 s10 s11 q9 g9 p0 p1 p2 p3 p4 p5 p6 p7 p8 p9 p10 p11 c8 HP HS HF
  go_wp2
  go_end0
  exact ⟨rfl, HR.out⟩
end Go.Proofs.Ybulkiec
