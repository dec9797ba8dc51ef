/-
  LawS0444BRun: deferred, endRun, runAgain.
-/
import Derived.Test.YbulkiecRunB
namespace Go.Proofs.Ybulkiec
open Go.ChangeShapes Go.WideShapes Go.ChangeAt Go.RowKit
set_option linter.unusedVariables false
attribute [local go_sem ↓] Go.wp_at_zero Go.wp_at_succ

/-- The event that 'deferred' emits. -/
def dfEv (step : Int) (txn : ByteArray) (act : Int) (item : ByteArray) : Ev := { kind := 7, step := step, txn := txn, act := act, item := item, eitem := ⟨#[]⟩, writer := ⟨#[]⟩ }

set_option maxRecDepth 100000 in
set_option maxHeartbeats 4000000 in
/-- (*driver).deferred. -/
theorem defer_run (E : Env) (s : St) (V : Nat → Value) (t : Nat) (step : Int) (txn : ByteArray) (ac : Int) (item : ByteArray) (w : World) (hl : Lay E) (h : PM w E s V) (ht : t < 3) (hev : s.ev.length ≤ 1000000) :
    Calls Yba.prog 12 #[.pointer (some ⟨E.br, 0, none⟩), .int .i64 t, .int .i64 step, .agg #[.string txn, .int .u8 ac, .string item]] w fun r w' =>
      r = .returned (.tuple #[]) ∧ ∃ V', PM w' E { s with ev := s.ev ++ [dfEv step txn ac item], ended := upd s.ended t false } V' ∧ Step E w V w' V' ∧ ∀ j, j ≠ 0 → V' j = V j := by
  have hti : (t : Int) < 3 := by omega
  have HP := hid h
  clear h
  go_enter Yba.func12, Yba.ntmps12
  go_wp2_with fail
  refine (emit_run E s V (dfEv step txn ac item) _ hl (HP.out.below hl ((Below.refl _ _).alloc (Nat.le_refl _) _)) hev).mono ?_
  rintro r w1 ⟨rfl, V1, hp1, hs1, hv1⟩
  have c10 : w1.cell? ⟨E.br, 10, none⟩ = some (.slice (some ⟨E.be, 0, none⟩) 3 3) := hp1.fix.r.cell (by omega)
  have ce := hp1.fix.en.cell ht
  have fe := hp1.fix.en.frozen t
  have HR : Hid (∃ V', PM (w1.setCell ⟨E.be, t, none⟩ (.bool false)) E { s with ev := s.ev ++ [dfEv step txn ac item], ended := upd s.ended t false } V' ∧ Step E w V (w1.setCell ⟨E.be, t, none⟩ (.bool false)) V' ∧ ∀ j, j ≠ 0 → V' j = V j) := by
    obtain ⟨h1, h2⟩ := hp1.set_en hl t false
    exact ⟨V1, h1, ((Step.of_below ((Below.refl _ _).alloc (Nat.le_refl _) _)).trans hs1).trans h2, hv1⟩
  clear hp1 hs1 hv1 HP
  go_wp2
  go_end0
  exact ⟨rfl, HR.out⟩

/-- The cells of the newest block. -/
theorem news1 (W : World) (cs : Array Value) (t : TypeId) (b : Nat) (hb : W.heap.size = b) : ∀ (j : Nat) (u : Value), cs.toList[j]? = some u → (W.alloc (Obj.cells cs t)).cell? ((⟨b, 0, none⟩ : Addr).add j) = some u := by
  subst hb
  exact World.news_of_block (w := W.alloc (Obj.cells cs t)) (B := W.heap.size) (cs := cs) (t := t) (fr := (0, 0)) (heap_alloc_new _ _)

/-- What 'endRun' makes of the state. -/
def endSt (s : St) (t : Nat) : St := { s with began := upd s.began t (-1), reads := upd s.reads t [], ws := upd s.ws t [] }

set_option maxRecDepth 100000 in
set_option maxHeartbeats 4000000 in
/-- (*optimistic).endRun. -/
theorem end_run (E : Env) (s : St) (V : Nat → Value) (t : Nat) (w : World) (hl : Lay E) (h : PM w E s V) (ht : t < 3) :
    Calls Yba.prog 14 #[.pointer (some ⟨E.br, 0, none⟩), .int .i64 t] w fun r w' => r = .returned (.tuple #[]) ∧ ∃ V', PM w' E (endSt s t) V' ∧ Step E w V w' V' := by
  have hti : (t : Int) < 3 := by omega
  have c16 : w.cell? ⟨E.br, 16, none⟩ = some (.slice (some ⟨E.bb, 0, none⟩) 3 3) := h.fix.r.cell (by omega)
  have c17 : w.cell? ⟨E.br, 17, none⟩ = some (.slice (some ⟨E.brd, 0, none⟩) 3 3) := h.fix.r.cell (by omega)
  have c18 : w.cell? ⟨E.br, 18, none⟩ = some (.slice (some ⟨E.bws, 0, none⟩) 3 3) := h.fix.r.cell (by omega)
  have d1 := h.fix.bg.cell ht
  have d2 := h.fix.rd.cell ht
  have d3 := h.fix.ws.cell ht
  have f1 := h.fix.bg.frozen t
  have f2 := h.fix.rd.frozen t
  have f3 := h.fix.ws.frozen t
  obtain ⟨p1, q1⟩ := h.set_bg hl t (-1)
  obtain ⟨p2, q2⟩ := p1.nil_rd hl t ht
  obtain ⟨p3, q3⟩ := p2.nil_ws hl t ht
  have HR : Hid (∃ V', PM (((w.setCell ⟨E.bb, t, none⟩ (.int .i64 (-1))).setCell ⟨E.brd, t, none⟩ (.slice none 0 0)).setCell ⟨E.bws, t, none⟩ (.slice none 0 0)) E (endSt s t) V' ∧ Step E w V (((w.setCell ⟨E.bb, t, none⟩ (.int .i64 (-1))).setCell ⟨E.brd, t, none⟩ (.slice none 0 0)).setCell ⟨E.bws, t, none⟩ (.slice none 0 0)) V') := ⟨_, p3, (q1.trans q2).trans q3⟩
  have n1 : E.br < E.bb := by obtain ⟨l1, l2, l3, l4, l5, l6, l7, l8, l9, l10, l11, l12, l13, l14, l15, l16, _⟩ := hl; omega
  have n2 : E.br < E.brd := by obtain ⟨l1, l2, l3, l4, l5, l6, l7, l8, l9, l10, l11, l12, l13, l14, l15, l16, _⟩ := hl; omega
  have n3 : E.brd < E.bws := hl.l13
  have n4 : E.bws < E.bb := by have := hl.l14; have := hl.l15; omega
  clear p1 q1 p2 q2 p3 q3 h
  go_enter Yba.func14, Yba.ntmps14
  go_wp2
  go_end0
  exact ⟨rfl, HR.out⟩

set_option maxRecDepth 100000 in
set_option maxHeartbeats 4000000 in
/-- (*driver).runAgain. -/
theorem again_run (E : Env) (s : St) (V : Nat → Value) (t : Nat) (w : World) (hl : Lay E) (h : PM w E s V) (ht : t < 3) (hvs : s.victims.length ≤ 1000000) :
    Calls Yba.prog 16 #[.pointer (some ⟨E.br, 0, none⟩), .int .i64 t] w fun r w' => r = .returned (.tuple #[]) ∧ ∃ V', PM w' E { s with victim := upd s.victim t true, victims := s.victims ++ [t] } V' ∧ Step E w V w' V' := by
  obtain ⟨i0, hi, hz0, hz1, hz2⟩ := info_parts Yba.info3
  have hti : (t : Int) < 3 := by omega
  have c11 : w.cell? ⟨E.br, 11, none⟩ = some (.slice (some ⟨E.bv, 0, none⟩) 3 3) := h.fix.r.cell (by omega)
  have c12 : w.cell? ⟨E.br, 12, none⟩ = some (V 10) := h.fix.r.cell (by omega)
  have d1 := h.fix.vi.cell ht
  have f1 := h.fix.vi.frozen t
  have f2 := h.fix.r.frozen 12
  have lr := cell_lt c12
  obtain ⟨p1, q1⟩ := h.set_vi hl t true
  have HP := hid p1
  have HQ := hid q1
  have hown : (w.setCell ⟨E.bv, t, none⟩ (.bool true)).ownsRow E.base 3 1 (V 10) s.victims.length (ints s.victims) := p1.bank.own 10 (by decide)
  have hsz := h.fix.size
  have n1 : E.br < E.bv := hl.l9
  have n2 : E.br < E.base := by obtain ⟨l1, l2, l3, l4, l5, l6, l7, l8, l9, l10, l11, l12, l13, l14, l15, l16, _⟩ := hl; omega
  clear p1 q1 h
  go_enter Yba.func16, Yba.ntmps16
  go_wp2_with (at_builtin; refine wpList_append_lies _ rfl _ _ 28 rfl E.base 3 i0 (.int .i64 0) 1 8 Yba.underlying28 hi hz0 hz1 hz2 rfl (by decide) _ _ _ rfl (hown.alloc _) ⟨w.heap.size, 0, none⟩ 1 1 [.int .i64 (t : Int)] rfl rfl (news1 _ #[.int .i64 (t : Int)] 3 _ (by simp)) (ints_oneCell .i64 [(t : Int)]) (by decide) (by unfold maxLen; omega) (by omega) (by simp; omega) (w.heap.size + 1) (by simp) ?_)
  intro g cap w1 hown1 hg1 hat hlt
  obtain ⟨hp, hs⟩ := (HP.out.below hl ((Below.refl _ _).alloc (Nat.le_refl _) _)).push_vs hl t hown1 hg1 hat (by simp)
  have hk : Kept (fun b => E.base ≤ b) (w.setCell ⟨E.bv, t, none⟩ (.bool true)) w1 := ((Kept.refl _ _).alloc _).trans (Kept.grown hg1 (fun k he => (hown.lt k he).1))
  have c1 := hk.cell (b := E.br) (o := 12) (v := V 10) (by rw [World.cell?_setCell_other _ _ _ _ (by simp)]; exact c12) (by omega)
  have f3 : w1.frozen? ⟨E.br, 12, none⟩ = false := by
    rw [hk.frozen (b := E.br) (o := 12) (by simpa using lr) (by omega), World.frozen?_setCell]
    exact f2
  have HR := hid (show ∃ V', PM (w1.setCell ⟨E.br, 12, none⟩ (.slice (some ⟨g, 0, none⟩) (s.victims.length + 1) cap)) E { s with victim := upd s.victim t true, victims := s.victims ++ [t] } V' ∧ Step E w V (w1.setCell ⟨E.br, 12, none⟩ (.slice (some ⟨g, 0, none⟩) (s.victims.length + 1) cap)) V' from
    ⟨_, hp, (HQ.out.trans (Step.of_below ((Below.refl _ _).alloc (Nat.le_refl _) _))).trans hs⟩)
  clear hp hs hk hown1 hg1 hat hlt hown HP HQ c12 f2
  go_wp2
  go_end0
  exact ⟨rfl, HR.out⟩
end Go.Proofs.Ybulkiec
