/-
  LawS0444BRun: (*optimistic).submit, a commit, an abort.
-/
import Derived.Test.YbulkiecSubA
namespace Go.Proofs.Ybulkiec
open Go.ChangeShapes Go.WideShapes Go.ChangeAt Go.RowKit
set_option linter.unusedVariables false
attribute [local go_sem ↓] Go.wp_at_zero Go.wp_at_succ

/-- What an abort makes of the state. -/
def abSt (E : Env) (s : St) (t i : Nat) : St :=
  let s2 := endSt s t
  { s2 with ev := s2.ev ++ [exEv ((i : Int) + 1) (E.nm t) 4 (E.it i)], ended := upd s2.ended t true }

set_option maxRecDepth 100000 in
set_option maxHeartbeats 4000000 in
theorem sub_goodn (E : Env) (s : St) (V : Nat → Value) (i t : Nat) (w : World) (hl : Lay E) (h : PM w E s V) (hg : Good s) (hi : i < E.n) (htx : E.tx i = t) (hac : E.ac i = 3) (hb : s.began t < 0) (hiv : inval (beginSt s t).wr ((beginSt s t).began t) ((beginSt s t).reads t) = none) (hws : ∀ j ∈ (beginSt s t).ws t, j < E.n ∧ E.ac j = 2) :
    Calls Yba.prog 6 #[.pointer (some ⟨E.br, 0, none⟩), .int .i64 i] w fun r w' => r = .returned (.tuple #[]) ∧ ∃ V', PM w' E (goodSt E (beginSt s t) t ((i : Int) + 1)) V' ∧ Step E w V w' V' := by
  have HIV := hid hiv
  have HWS := hid hws
  clear hiv hws
  have ht : t < 3 := htx ▸ hl.tx i hi
  have hti : (t : Int) < 3 := by omega
  have hii : (i : Int) < (E.n : Int) := by omega
  have hw1 : IntKind.i64.wrap ((i : Int) + 1) = (i : Int) + 1 := by have := hl.n; rw [IntKind.wrap_i64]; omega
  have c0 : w.cell? ⟨E.br, 0, none⟩ = some (.pointer (some ⟨E.bs, 0, none⟩)) := h.fix.r.cell (by omega)
  have c2 : w.cell? ⟨E.br, 2, none⟩ = some (.slice (some ⟨E.bt, 0, none⟩) E.n E.n) := h.fix.r.cell (by omega)
  have d0 := h.fix.st.sc
  have q0 := h.fix.st.o0 i hi
  have q1 := h.fix.st.o1 i hi
  have q2 := h.fix.st.o2 i hi
  have dt := h.fix.st.tx i hi
  rw [htx] at q0 dt
  rw [hac] at q1
  have z0 := cell_lt c0
  have z1 := cell_lt d0
  have z2 := cell_lt q0
  have z3 := cell_lt dt
  have n0 : E.br ≠ w.heap.size := by omega
  have n1 : E.bs ≠ w.heap.size := by omega
  have n2 : E.bo ≠ w.heap.size := by omega
  have n3 : E.bt ≠ w.heap.size := by omega
  have HB := hid hb
  have HP := hid h
  have HG := hid (good_begin (t := t) hg)
  clear h hg
  go_enter Yba.func6, Yba.ntmps6
  go_wp2_with fail
  go_region_held3 (fun w' => w'.cell? ⟨E.br, 0, none⟩ = some (.pointer (some ⟨E.bs, 0, none⟩)) ∧ w'.cell? ⟨E.bs, 0, none⟩ = some (.slice (some ⟨E.bo, 0, none⟩) E.n E.n) ∧ w'.cell? ⟨E.bo, i * 3, none⟩ = some (.string (E.nm t)) ∧ w'.cell? ⟨E.bo, i * 3 + 1, none⟩ = some (.int .u8 3) ∧ w'.cell? ⟨E.bo, i * 3 + 2, none⟩ = some (.string (E.it i)) ∧ w'.cell? ⟨E.br, 2, none⟩ = some (.slice (some ⟨E.bt, 0, none⟩) E.n E.n) ∧ w'.cell? ⟨E.bt, i, none⟩ = some (.int .i64 (t : Int)))
    (go_keep) (fail)
  have hB : Below w.heap.size w (w.alloc (Obj.cells #[Value.string (E.nm t), Value.int IntKind.u8 3, Value.string (E.it i)] 39)).drew := ((Below.refl _ _).alloc (Nat.le_refl _) _).drew
  have o0 : ((w.alloc (Obj.cells #[Value.string (E.nm t), Value.int IntKind.u8 3, Value.string (E.it i)] 39)).drew).cell? ⟨w.heap.size, 0, none⟩ = some (Value.string (E.nm t)) := by go_simp
  have o1 : ((w.alloc (Obj.cells #[Value.string (E.nm t), Value.int IntKind.u8 3, Value.string (E.it i)] 39)).drew).cell? ⟨w.heap.size, 1, none⟩ = some (Value.int .u8 3) := by go_simp
  have o2 : ((w.alloc (Obj.cells #[Value.string (E.nm t), Value.int IntKind.u8 3, Value.string (E.it i)] 39)).drew).cell? ⟨w.heap.size, 2, none⟩ = some (Value.string (E.it i)) := by go_simp
  have HP0 := hid (HP.out.below hl hB)
  have HS0 := hid (Step.of_below (E := E) (V := V) hB)
  have HF : Hid (¬ Foot E V w.heap.size) := HP.out.fresh hl (Nat.le_refl _)
  clear hB c0 c2 d0 q0 q1 q2 dt z0 z1 z2 z3 n0 n1 n2 n3 HP
  generalize (w.alloc (Obj.cells #[Value.string (E.nm t), Value.int IntKind.u8 3, Value.string (E.it i)] 39)).drew = w0 at *
  generalize w.heap.size = bx at *
  have c16 : w0.cell? ⟨E.br, 16, none⟩ = some (.slice (some ⟨E.bb, 0, none⟩) 3 3) := HP0.out.fix.r.cell (by omega)
  have c15 : w0.cell? ⟨E.br, 15, none⟩ = some (.int .i64 (s.commits : Int)) := HP0.out.fix.r.cell (by omega)
  have db := HP0.out.fix.bg.cell ht
  have fb := HP0.out.fix.bg.frozen t
  have nb : E.br ≠ E.bb := by obtain ⟨l1, l2, l3, l4, l5, l6, l7, l8, l9, l10, l11, l12, l13, l14, l15, l16, _⟩ := hl; omega
  go_wp2_with fail
  go_region_held3 (fun w' => w'.cell? ⟨E.br, 16, none⟩ = some (.slice (some ⟨E.bb, 0, none⟩) 3 3) ∧ w'.cell? ⟨E.br, 15, none⟩ = some (.int .i64 (s.commits : Int)))
    (first | exact ⟨set_far c16 nb, set_far c15 nb⟩ | go_keep) (fail)
  obtain ⟨p1, sg1⟩ := HP0.out.set_bg hl t (s.commits : Int)
  have HP1 : Hid (PM (w0.setCell ⟨E.bb, t, none⟩ (.int .i64 (s.commits : Int))).drew E (beginSt s t) V) := by
    unfold beginSt
    rw [if_pos (by have := HB.out; omega)]
    exact p1.below hl (Below.refl _ _).drew
  have HS1 := hid ((HS0.out.trans sg1).trans (Step.of_below (Below.refl _ _).drew))
  have k0 := (sg1.trans (Step.of_below (Below.refl _ _).drew)).kept.cell o0 HF.out
  have k1 := (sg1.trans (Step.of_below (Below.refl _ _).drew)).kept.cell o1 HF.out
  have k2 := (sg1.trans (Step.of_below (Below.refl _ _).drew)).kept.cell o2 HF.out
  clear p1 sg1 HP0 HS0 o0 o1 o2 c16 c15 db fb nb
  generalize (w0.setCell ⟨E.bb, t, none⟩ (.int .i64 (s.commits : Int))).drew = w1 at *
  obtain ⟨s1, HX1⟩ : ∃ s1, Hid (s1 = beginSt s t) := ⟨_, rfl⟩
  replace HP1 : Hid (PM w1 E s1 V) := by rw [HX1.out]; exact HP1.out
  replace HG : Hid (Good s1) := by rw [HX1.out]; exact HG.out
  have HIV1 : Hid (inval s1.wr (s1.began t) (s1.reads t) = none) := by rw [HX1.out]; exact HIV.out
  have HWS1 : Hid (∀ j ∈ s1.ws t, j < E.n ∧ E.ac j = 2) := by rw [HX1.out]; exact HWS.out
  clear HIV HWS
  go_wp2_with fail
  refine (valid_good E s1 V t ((i : Int) + 1) _ hl HP1.out HG.out ht HIV1.out HWS1.out).mono ?_
  rintro r w5 ⟨rfl, V5, hp5, hs5⟩
  have HR := hid (show ∃ V', PM w5 E (goodSt E s1 t ((i : Int) + 1)) V' ∧ Step E w V w5 V' from ⟨V5, hp5, HS1.out.trans hs5⟩)
  clear hp5 hs5
  go_wp2_with fail
  go_end0
  exact ⟨rfl, by rw [← HX1.out]; exact HR.out⟩

set_option maxRecDepth 100000 in
set_option maxHeartbeats 4000000 in
theorem sub_badn (E : Env) (s : St) (V : Nat → Value) (i t : Nat) (w : World) (hl : Lay E) (h : PM w E s V) (hg : Good s) (hi : i < E.n) (htx : E.tx i = t) (hac : E.ac i = 3) (hb : s.began t < 0) (x wt : Nat) (hx : x < 3) (hwt : wt < 3) (hiv : inval (beginSt s t).wr ((beginSt s t).began t) ((beginSt s t).reads t) = some (x, wt)) :
    Calls Yba.prog 6 #[.pointer (some ⟨E.br, 0, none⟩), .int .i64 i] w fun r w' => r = .returned (.tuple #[]) ∧ ∃ V', PM w' E (badSt E (beginSt s t) t ((i : Int) + 1) x wt) V' ∧ Step E w V w' V' := by
  have HIV := hid hiv
  have HX := hid hx
  have HWT := hid hwt
  clear hiv hx hwt
  have ht : t < 3 := htx ▸ hl.tx i hi
  have hti : (t : Int) < 3 := by omega
  have hii : (i : Int) < (E.n : Int) := by omega
  have hw1 : IntKind.i64.wrap ((i : Int) + 1) = (i : Int) + 1 := by have := hl.n; rw [IntKind.wrap_i64]; omega
  have c0 : w.cell? ⟨E.br, 0, none⟩ = some (.pointer (some ⟨E.bs, 0, none⟩)) := h.fix.r.cell (by omega)
  have c2 : w.cell? ⟨E.br, 2, none⟩ = some (.slice (some ⟨E.bt, 0, none⟩) E.n E.n) := h.fix.r.cell (by omega)
  have d0 := h.fix.st.sc
  have q0 := h.fix.st.o0 i hi
  have q1 := h.fix.st.o1 i hi
  have q2 := h.fix.st.o2 i hi
  have dt := h.fix.st.tx i hi
  rw [htx] at q0 dt
  rw [hac] at q1
  have z0 := cell_lt c0
  have z1 := cell_lt d0
  have z2 := cell_lt q0
  have z3 := cell_lt dt
  have n0 : E.br ≠ w.heap.size := by omega
  have n1 : E.bs ≠ w.heap.size := by omega
  have n2 : E.bo ≠ w.heap.size := by omega
  have n3 : E.bt ≠ w.heap.size := by omega
  have HB := hid hb
  have HP := hid h
  have HG := hid (good_begin (t := t) hg)
  clear h hg
  go_enter Yba.func6, Yba.ntmps6
  go_wp2_with fail
  go_region_held3 (fun w' => w'.cell? ⟨E.br, 0, none⟩ = some (.pointer (some ⟨E.bs, 0, none⟩)) ∧ w'.cell? ⟨E.bs, 0, none⟩ = some (.slice (some ⟨E.bo, 0, none⟩) E.n E.n) ∧ w'.cell? ⟨E.bo, i * 3, none⟩ = some (.string (E.nm t)) ∧ w'.cell? ⟨E.bo, i * 3 + 1, none⟩ = some (.int .u8 3) ∧ w'.cell? ⟨E.bo, i * 3 + 2, none⟩ = some (.string (E.it i)) ∧ w'.cell? ⟨E.br, 2, none⟩ = some (.slice (some ⟨E.bt, 0, none⟩) E.n E.n) ∧ w'.cell? ⟨E.bt, i, none⟩ = some (.int .i64 (t : Int)))
    (go_keep) (fail)
  have hB : Below w.heap.size w (w.alloc (Obj.cells #[Value.string (E.nm t), Value.int IntKind.u8 3, Value.string (E.it i)] 39)).drew := ((Below.refl _ _).alloc (Nat.le_refl _) _).drew
  have o0 : ((w.alloc (Obj.cells #[Value.string (E.nm t), Value.int IntKind.u8 3, Value.string (E.it i)] 39)).drew).cell? ⟨w.heap.size, 0, none⟩ = some (Value.string (E.nm t)) := by go_simp
  have o1 : ((w.alloc (Obj.cells #[Value.string (E.nm t), Value.int IntKind.u8 3, Value.string (E.it i)] 39)).drew).cell? ⟨w.heap.size, 1, none⟩ = some (Value.int .u8 3) := by go_simp
  have o2 : ((w.alloc (Obj.cells #[Value.string (E.nm t), Value.int IntKind.u8 3, Value.string (E.it i)] 39)).drew).cell? ⟨w.heap.size, 2, none⟩ = some (Value.string (E.it i)) := by go_simp
  have HP0 := hid (HP.out.below hl hB)
  have HS0 := hid (Step.of_below (E := E) (V := V) hB)
  have HF : Hid (¬ Foot E V w.heap.size) := HP.out.fresh hl (Nat.le_refl _)
  clear hB c0 c2 d0 q0 q1 q2 dt z0 z1 z2 z3 n0 n1 n2 n3 HP
  generalize (w.alloc (Obj.cells #[Value.string (E.nm t), Value.int IntKind.u8 3, Value.string (E.it i)] 39)).drew = w0 at *
  generalize w.heap.size = bx at *
  have c16 : w0.cell? ⟨E.br, 16, none⟩ = some (.slice (some ⟨E.bb, 0, none⟩) 3 3) := HP0.out.fix.r.cell (by omega)
  have c15 : w0.cell? ⟨E.br, 15, none⟩ = some (.int .i64 (s.commits : Int)) := HP0.out.fix.r.cell (by omega)
  have db := HP0.out.fix.bg.cell ht
  have fb := HP0.out.fix.bg.frozen t
  have nb : E.br ≠ E.bb := by obtain ⟨l1, l2, l3, l4, l5, l6, l7, l8, l9, l10, l11, l12, l13, l14, l15, l16, _⟩ := hl; omega
  go_wp2_with fail
  go_region_held3 (fun w' => w'.cell? ⟨E.br, 16, none⟩ = some (.slice (some ⟨E.bb, 0, none⟩) 3 3) ∧ w'.cell? ⟨E.br, 15, none⟩ = some (.int .i64 (s.commits : Int)))
    (first | exact ⟨set_far c16 nb, set_far c15 nb⟩ | go_keep) (fail)
  obtain ⟨p1, sg1⟩ := HP0.out.set_bg hl t (s.commits : Int)
  have HP1 : Hid (PM (w0.setCell ⟨E.bb, t, none⟩ (.int .i64 (s.commits : Int))).drew E (beginSt s t) V) := by
    unfold beginSt
    rw [if_pos (by have := HB.out; omega)]
    exact p1.below hl (Below.refl _ _).drew
  have HS1 := hid ((HS0.out.trans sg1).trans (Step.of_below (Below.refl _ _).drew))
  have k0 := (sg1.trans (Step.of_below (Below.refl _ _).drew)).kept.cell o0 HF.out
  have k1 := (sg1.trans (Step.of_below (Below.refl _ _).drew)).kept.cell o1 HF.out
  have k2 := (sg1.trans (Step.of_below (Below.refl _ _).drew)).kept.cell o2 HF.out
  clear p1 sg1 HP0 HS0 o0 o1 o2 c16 c15 db fb nb
  generalize (w0.setCell ⟨E.bb, t, none⟩ (.int .i64 (s.commits : Int))).drew = w1 at *
  obtain ⟨s1, HX1⟩ : ∃ s1, Hid (s1 = beginSt s t) := ⟨_, rfl⟩
  replace HP1 : Hid (PM w1 E s1 V) := by rw [HX1.out]; exact HP1.out
  replace HG : Hid (Good s1) := by rw [HX1.out]; exact HG.out
  have HIV1 : Hid (inval s1.wr (s1.began t) (s1.reads t) = some (x, wt)) := by rw [HX1.out]; exact HIV.out
  clear HIV
  go_wp2_with fail
  refine (valid_bad E s1 V t ((i : Int) + 1) x wt _ hl HP1.out HG.out ht HX.out HWT.out HIV1.out).mono ?_
  rintro r w5 ⟨rfl, V5, hp5, hs5⟩
  have HR := hid (show ∃ V', PM w5 E (badSt E s1 t ((i : Int) + 1) x wt) V' ∧ Step E w V w5 V' from ⟨V5, hp5, HS1.out.trans hs5⟩)
  clear hp5 hs5
  go_wp2_with fail
  go_end0
  exact ⟨rfl, by rw [← HX1.out]; exact HR.out⟩

set_option maxRecDepth 100000 in
set_option maxHeartbeats 4000000 in
theorem sub_abortn (E : Env) (s : St) (V : Nat → Value) (i t : Nat) (w : World) (hl : Lay E) (h : PM w E s V) (hg : Good s) (hi : i < E.n) (htx : E.tx i = t) (hac : E.ac i = 4) (hb : s.began t < 0) :
    Calls Yba.prog 6 #[.pointer (some ⟨E.br, 0, none⟩), .int .i64 i] w fun r w' => r = .returned (.tuple #[]) ∧ ∃ V', PM w' E (abSt E (beginSt s t) t i) V' ∧ Step E w V w' V' := by
  have ht : t < 3 := htx ▸ hl.tx i hi
  have hti : (t : Int) < 3 := by omega
  have hii : (i : Int) < (E.n : Int) := by omega
  have hw1 : IntKind.i64.wrap ((i : Int) + 1) = (i : Int) + 1 := by have := hl.n; rw [IntKind.wrap_i64]; omega
  have c0 : w.cell? ⟨E.br, 0, none⟩ = some (.pointer (some ⟨E.bs, 0, none⟩)) := h.fix.r.cell (by omega)
  have c2 : w.cell? ⟨E.br, 2, none⟩ = some (.slice (some ⟨E.bt, 0, none⟩) E.n E.n) := h.fix.r.cell (by omega)
  have d0 := h.fix.st.sc
  have q0 := h.fix.st.o0 i hi
  have q1 := h.fix.st.o1 i hi
  have q2 := h.fix.st.o2 i hi
  have dt := h.fix.st.tx i hi
  rw [htx] at q0 dt
  rw [hac] at q1
  have z0 := cell_lt c0
  have z1 := cell_lt d0
  have z2 := cell_lt q0
  have z3 := cell_lt dt
  have n0 : E.br ≠ w.heap.size := by omega
  have n1 : E.bs ≠ w.heap.size := by omega
  have n2 : E.bo ≠ w.heap.size := by omega
  have n3 : E.bt ≠ w.heap.size := by omega
  have HB := hid hb
  have HP := hid h
  have HG := hid (good_begin (t := t) hg)
  clear h hg
  go_enter Yba.func6, Yba.ntmps6
  go_wp2_with fail
  go_region_held3 (fun w' => w'.cell? ⟨E.br, 0, none⟩ = some (.pointer (some ⟨E.bs, 0, none⟩)) ∧ w'.cell? ⟨E.bs, 0, none⟩ = some (.slice (some ⟨E.bo, 0, none⟩) E.n E.n) ∧ w'.cell? ⟨E.bo, i * 3, none⟩ = some (.string (E.nm t)) ∧ w'.cell? ⟨E.bo, i * 3 + 1, none⟩ = some (.int .u8 4) ∧ w'.cell? ⟨E.bo, i * 3 + 2, none⟩ = some (.string (E.it i)) ∧ w'.cell? ⟨E.br, 2, none⟩ = some (.slice (some ⟨E.bt, 0, none⟩) E.n E.n) ∧ w'.cell? ⟨E.bt, i, none⟩ = some (.int .i64 (t : Int)))
    (go_keep) (fail)
  have hB : Below w.heap.size w (w.alloc (Obj.cells #[Value.string (E.nm t), Value.int IntKind.u8 4, Value.string (E.it i)] 39)).drew := ((Below.refl _ _).alloc (Nat.le_refl _) _).drew
  have o0 : ((w.alloc (Obj.cells #[Value.string (E.nm t), Value.int IntKind.u8 4, Value.string (E.it i)] 39)).drew).cell? ⟨w.heap.size, 0, none⟩ = some (Value.string (E.nm t)) := by go_simp
  have o1 : ((w.alloc (Obj.cells #[Value.string (E.nm t), Value.int IntKind.u8 4, Value.string (E.it i)] 39)).drew).cell? ⟨w.heap.size, 1, none⟩ = some (Value.int .u8 4) := by go_simp
  have o2 : ((w.alloc (Obj.cells #[Value.string (E.nm t), Value.int IntKind.u8 4, Value.string (E.it i)] 39)).drew).cell? ⟨w.heap.size, 2, none⟩ = some (Value.string (E.it i)) := by go_simp
  have HP0 := hid (HP.out.below hl hB)
  have HS0 := hid (Step.of_below (E := E) (V := V) hB)
  have HF : Hid (¬ Foot E V w.heap.size) := HP.out.fresh hl (Nat.le_refl _)
  clear hB c0 c2 d0 q0 q1 q2 dt z0 z1 z2 z3 n0 n1 n2 n3 HP
  generalize (w.alloc (Obj.cells #[Value.string (E.nm t), Value.int IntKind.u8 4, Value.string (E.it i)] 39)).drew = w0 at *
  generalize w.heap.size = bx at *
  have c16 : w0.cell? ⟨E.br, 16, none⟩ = some (.slice (some ⟨E.bb, 0, none⟩) 3 3) := HP0.out.fix.r.cell (by omega)
  have c15 : w0.cell? ⟨E.br, 15, none⟩ = some (.int .i64 (s.commits : Int)) := HP0.out.fix.r.cell (by omega)
  have db := HP0.out.fix.bg.cell ht
  have fb := HP0.out.fix.bg.frozen t
  have nb : E.br ≠ E.bb := by obtain ⟨l1, l2, l3, l4, l5, l6, l7, l8, l9, l10, l11, l12, l13, l14, l15, l16, _⟩ := hl; omega
  go_wp2_with fail
  go_region_held3 (fun w' => w'.cell? ⟨E.br, 16, none⟩ = some (.slice (some ⟨E.bb, 0, none⟩) 3 3) ∧ w'.cell? ⟨E.br, 15, none⟩ = some (.int .i64 (s.commits : Int)))
    (first | exact ⟨set_far c16 nb, set_far c15 nb⟩ | go_keep) (fail)
  obtain ⟨p1, sg1⟩ := HP0.out.set_bg hl t (s.commits : Int)
  have HP1 : Hid (PM (w0.setCell ⟨E.bb, t, none⟩ (.int .i64 (s.commits : Int))).drew E (beginSt s t) V) := by
    unfold beginSt
    rw [if_pos (by have := HB.out; omega)]
    exact p1.below hl (Below.refl _ _).drew
  have HS1 := hid ((HS0.out.trans sg1).trans (Step.of_below (Below.refl _ _).drew))
  have k0 := (sg1.trans (Step.of_below (Below.refl _ _).drew)).kept.cell o0 HF.out
  have k1 := (sg1.trans (Step.of_below (Below.refl _ _).drew)).kept.cell o1 HF.out
  have k2 := (sg1.trans (Step.of_below (Below.refl _ _).drew)).kept.cell o2 HF.out
  clear p1 sg1 HP0 HS0 o0 o1 o2 c16 c15 db fb nb
  generalize (w0.setCell ⟨E.bb, t, none⟩ (.int .i64 (s.commits : Int))).drew = w1 at *
  obtain ⟨s1, HX1⟩ : ∃ s1, Hid (s1 = beginSt s t) := ⟨_, rfl⟩
  replace HP1 : Hid (PM w1 E s1 V) := by rw [HX1.out]; exact HP1.out
  replace HG : Hid (Good s1) := by rw [HX1.out]; exact HG.out
  have HEV : Hid ((endSt s1 t).ev.length ≤ 1000000) := by have := HG.out.ev; show s1.ev.length ≤ _; omega
  go_wp2_with fail
  refine (end_run E s1 V t _ hl HP1.out ht).mono ?_
  rintro r w3 ⟨rfl, V3, hp3, hs3⟩
  have HP3 := hid hp3
  have HS3 := hid (HS1.out.trans hs3)
  have m0 := hs3.kept.cell k0 HF.out
  have m1 := hs3.kept.cell k1 HF.out
  have m2 := hs3.kept.cell k2 HF.out
  have HF3 : Hid (¬ Foot E V3 bx) := fun hf => (hs3.foot bx hf).elim HF.out (fun hh => by have := cell_lt k0; omega)
  clear hp3 hs3 k0 k1 k2 HP1 HS1 HF
  go_wp2_with fail
  go_region_held3 (fun w' => w'.cell? ⟨bx, 0, none⟩ = some (.string (E.nm t)) ∧ w'.cell? ⟨bx, 1, none⟩ = some (.int .u8 4) ∧ w'.cell? ⟨bx, 2, none⟩ = some (.string (E.it i)))
    (first | exact ⟨p0, p1, p2⟩ | go_keep)
    (first | (go_at_call 11; refine (exec_run E (endSt s1 t) V3 t ((i : Int) + 1) (E.nm t) 4 (E.it i) _ hl (by exact HP3.out.below hl (Below.refl _ _).drew) ht (Or.inr (Or.inr (Or.inr rfl))) HEV.out).mono ?_; rintro r w5 ⟨rfl, V5, hp5, hs5, hv5⟩; have p0 := hs5.kept.cell (by exact m0) HF3.out; have p1 := hs5.kept.cell (by exact m1) HF3.out; have p2 := hs5.kept.cell (by exact m2) HF3.out))
  have HR := hid (show ∃ V', PM w5 E (abSt E s1 t i) V' ∧ Step E w V w5 V' from ⟨V5, hp5, (HS3.out.trans (Step.of_below (Below.refl _ _).drew)).trans hs5⟩)
  clear hp5 hs5 hv5 p0 p1 p2
  go_wp2_with fail
  go_end0
  exact ⟨rfl, by rw [← HX1.out]; exact HR.out⟩

set_option maxRecDepth 100000 in
set_option maxHeartbeats 4000000 in
theorem sub_goodp (E : Env) (s : St) (V : Nat → Value) (i t : Nat) (w : World) (hl : Lay E) (h : PM w E s V) (hg : Good s) (hi : i < E.n) (htx : E.tx i = t) (hac : E.ac i = 3) (hb : ¬ s.began t < 0) (hiv : inval (beginSt s t).wr ((beginSt s t).began t) ((beginSt s t).reads t) = none) (hws : ∀ j ∈ (beginSt s t).ws t, j < E.n ∧ E.ac j = 2) :
    Calls Yba.prog 6 #[.pointer (some ⟨E.br, 0, none⟩), .int .i64 i] w fun r w' => r = .returned (.tuple #[]) ∧ ∃ V', PM w' E (goodSt E (beginSt s t) t ((i : Int) + 1)) V' ∧ Step E w V w' V' := by
  have HIV := hid hiv
  have HWS := hid hws
  clear hiv hws
  have ht : t < 3 := htx ▸ hl.tx i hi
  have hti : (t : Int) < 3 := by omega
  have hii : (i : Int) < (E.n : Int) := by omega
  have hw1 : IntKind.i64.wrap ((i : Int) + 1) = (i : Int) + 1 := by have := hl.n; rw [IntKind.wrap_i64]; omega
  have c0 : w.cell? ⟨E.br, 0, none⟩ = some (.pointer (some ⟨E.bs, 0, none⟩)) := h.fix.r.cell (by omega)
  have c2 : w.cell? ⟨E.br, 2, none⟩ = some (.slice (some ⟨E.bt, 0, none⟩) E.n E.n) := h.fix.r.cell (by omega)
  have d0 := h.fix.st.sc
  have q0 := h.fix.st.o0 i hi
  have q1 := h.fix.st.o1 i hi
  have q2 := h.fix.st.o2 i hi
  have dt := h.fix.st.tx i hi
  rw [htx] at q0 dt
  rw [hac] at q1
  have z0 := cell_lt c0
  have z1 := cell_lt d0
  have z2 := cell_lt q0
  have z3 := cell_lt dt
  have n0 : E.br ≠ w.heap.size := by omega
  have n1 : E.bs ≠ w.heap.size := by omega
  have n2 : E.bo ≠ w.heap.size := by omega
  have n3 : E.bt ≠ w.heap.size := by omega
  have HB := hid hb
  have HP := hid h
  have HG := hid (good_begin (t := t) hg)
  clear h hg
  go_enter Yba.func6, Yba.ntmps6
  go_wp2_with fail
  go_region_held3 (fun w' => w'.cell? ⟨E.br, 0, none⟩ = some (.pointer (some ⟨E.bs, 0, none⟩)) ∧ w'.cell? ⟨E.bs, 0, none⟩ = some (.slice (some ⟨E.bo, 0, none⟩) E.n E.n) ∧ w'.cell? ⟨E.bo, i * 3, none⟩ = some (.string (E.nm t)) ∧ w'.cell? ⟨E.bo, i * 3 + 1, none⟩ = some (.int .u8 3) ∧ w'.cell? ⟨E.bo, i * 3 + 2, none⟩ = some (.string (E.it i)) ∧ w'.cell? ⟨E.br, 2, none⟩ = some (.slice (some ⟨E.bt, 0, none⟩) E.n E.n) ∧ w'.cell? ⟨E.bt, i, none⟩ = some (.int .i64 (t : Int)))
    (go_keep) (fail)
  have hB : Below w.heap.size w (w.alloc (Obj.cells #[Value.string (E.nm t), Value.int IntKind.u8 3, Value.string (E.it i)] 39)).drew := ((Below.refl _ _).alloc (Nat.le_refl _) _).drew
  have o0 : ((w.alloc (Obj.cells #[Value.string (E.nm t), Value.int IntKind.u8 3, Value.string (E.it i)] 39)).drew).cell? ⟨w.heap.size, 0, none⟩ = some (Value.string (E.nm t)) := by go_simp
  have o1 : ((w.alloc (Obj.cells #[Value.string (E.nm t), Value.int IntKind.u8 3, Value.string (E.it i)] 39)).drew).cell? ⟨w.heap.size, 1, none⟩ = some (Value.int .u8 3) := by go_simp
  have o2 : ((w.alloc (Obj.cells #[Value.string (E.nm t), Value.int IntKind.u8 3, Value.string (E.it i)] 39)).drew).cell? ⟨w.heap.size, 2, none⟩ = some (Value.string (E.it i)) := by go_simp
  have HP0 := hid (HP.out.below hl hB)
  have HS0 := hid (Step.of_below (E := E) (V := V) hB)
  have HF : Hid (¬ Foot E V w.heap.size) := HP.out.fresh hl (Nat.le_refl _)
  clear hB c0 c2 d0 q0 q1 q2 dt z0 z1 z2 z3 n0 n1 n2 n3 HP
  generalize (w.alloc (Obj.cells #[Value.string (E.nm t), Value.int IntKind.u8 3, Value.string (E.it i)] 39)).drew = w0 at *
  generalize w.heap.size = bx at *
  have c16 : w0.cell? ⟨E.br, 16, none⟩ = some (.slice (some ⟨E.bb, 0, none⟩) 3 3) := HP0.out.fix.r.cell (by omega)
  have db := HP0.out.fix.bg.cell ht
  have HP1 : Hid (PM w0 E (beginSt s t) V) := by
    unfold beginSt
    rw [if_neg (by have := HB.out; omega)]
    exact HP0.out
  have HS1 := HS0
  have k0 := o0
  have k1 := o1
  have k2 := o2
  clear HP0 HS0 o0 o1 o2
  generalize w0 = w1 at *
  obtain ⟨s1, HX1⟩ : ∃ s1, Hid (s1 = beginSt s t) := ⟨_, rfl⟩
  replace HP1 : Hid (PM w1 E s1 V) := by rw [HX1.out]; exact HP1.out
  replace HG : Hid (Good s1) := by rw [HX1.out]; exact HG.out
  have HIV1 : Hid (inval s1.wr (s1.began t) (s1.reads t) = none) := by rw [HX1.out]; exact HIV.out
  have HWS1 : Hid (∀ j ∈ s1.ws t, j < E.n ∧ E.ac j = 2) := by rw [HX1.out]; exact HWS.out
  clear HIV HWS
  go_wp2_with fail
  refine (valid_good E s1 V t ((i : Int) + 1) _ hl HP1.out HG.out ht HIV1.out HWS1.out).mono ?_
  rintro r w5 ⟨rfl, V5, hp5, hs5⟩
  have HR := hid (show ∃ V', PM w5 E (goodSt E s1 t ((i : Int) + 1)) V' ∧ Step E w V w5 V' from ⟨V5, hp5, HS1.out.trans hs5⟩)
  clear hp5 hs5
  go_wp2_with fail
  go_end0
  exact ⟨rfl, by rw [← HX1.out]; exact HR.out⟩

set_option maxRecDepth 100000 in
set_option maxHeartbeats 4000000 in
theorem sub_badp (E : Env) (s : St) (V : Nat → Value) (i t : Nat) (w : World) (hl : Lay E) (h : PM w E s V) (hg : Good s) (hi : i < E.n) (htx : E.tx i = t) (hac : E.ac i = 3) (hb : ¬ s.began t < 0) (x wt : Nat) (hx : x < 3) (hwt : wt < 3) (hiv : inval (beginSt s t).wr ((beginSt s t).began t) ((beginSt s t).reads t) = some (x, wt)) :
    Calls Yba.prog 6 #[.pointer (some ⟨E.br, 0, none⟩), .int .i64 i] w fun r w' => r = .returned (.tuple #[]) ∧ ∃ V', PM w' E (badSt E (beginSt s t) t ((i : Int) + 1) x wt) V' ∧ Step E w V w' V' := by
  have HIV := hid hiv
  have HX := hid hx
  have HWT := hid hwt
  clear hiv hx hwt
  have ht : t < 3 := htx ▸ hl.tx i hi
  have hti : (t : Int) < 3 := by omega
  have hii : (i : Int) < (E.n : Int) := by omega
  have hw1 : IntKind.i64.wrap ((i : Int) + 1) = (i : Int) + 1 := by have := hl.n; rw [IntKind.wrap_i64]; omega
  have c0 : w.cell? ⟨E.br, 0, none⟩ = some (.pointer (some ⟨E.bs, 0, none⟩)) := h.fix.r.cell (by omega)
  have c2 : w.cell? ⟨E.br, 2, none⟩ = some (.slice (some ⟨E.bt, 0, none⟩) E.n E.n) := h.fix.r.cell (by omega)
  have d0 := h.fix.st.sc
  have q0 := h.fix.st.o0 i hi
  have q1 := h.fix.st.o1 i hi
  have q2 := h.fix.st.o2 i hi
  have dt := h.fix.st.tx i hi
  rw [htx] at q0 dt
  rw [hac] at q1
  have z0 := cell_lt c0
  have z1 := cell_lt d0
  have z2 := cell_lt q0
  have z3 := cell_lt dt
  have n0 : E.br ≠ w.heap.size := by omega
  have n1 : E.bs ≠ w.heap.size := by omega
  have n2 : E.bo ≠ w.heap.size := by omega
  have n3 : E.bt ≠ w.heap.size := by omega
  have HB := hid hb
  have HP := hid h
  have HG := hid (good_begin (t := t) hg)
  clear h hg
  go_enter Yba.func6, Yba.ntmps6
  go_wp2_with fail
  go_region_held3 (fun w' => w'.cell? ⟨E.br, 0, none⟩ = some (.pointer (some ⟨E.bs, 0, none⟩)) ∧ w'.cell? ⟨E.bs, 0, none⟩ = some (.slice (some ⟨E.bo, 0, none⟩) E.n E.n) ∧ w'.cell? ⟨E.bo, i * 3, none⟩ = some (.string (E.nm t)) ∧ w'.cell? ⟨E.bo, i * 3 + 1, none⟩ = some (.int .u8 3) ∧ w'.cell? ⟨E.bo, i * 3 + 2, none⟩ = some (.string (E.it i)) ∧ w'.cell? ⟨E.br, 2, none⟩ = some (.slice (some ⟨E.bt, 0, none⟩) E.n E.n) ∧ w'.cell? ⟨E.bt, i, none⟩ = some (.int .i64 (t : Int)))
    (go_keep) (fail)
  have hB : Below w.heap.size w (w.alloc (Obj.cells #[Value.string (E.nm t), Value.int IntKind.u8 3, Value.string (E.it i)] 39)).drew := ((Below.refl _ _).alloc (Nat.le_refl _) _).drew
  have o0 : ((w.alloc (Obj.cells #[Value.string (E.nm t), Value.int IntKind.u8 3, Value.string (E.it i)] 39)).drew).cell? ⟨w.heap.size, 0, none⟩ = some (Value.string (E.nm t)) := by go_simp
  have o1 : ((w.alloc (Obj.cells #[Value.string (E.nm t), Value.int IntKind.u8 3, Value.string (E.it i)] 39)).drew).cell? ⟨w.heap.size, 1, none⟩ = some (Value.int .u8 3) := by go_simp
  have o2 : ((w.alloc (Obj.cells #[Value.string (E.nm t), Value.int IntKind.u8 3, Value.string (E.it i)] 39)).drew).cell? ⟨w.heap.size, 2, none⟩ = some (Value.string (E.it i)) := by go_simp
  have HP0 := hid (HP.out.below hl hB)
  have HS0 := hid (Step.of_below (E := E) (V := V) hB)
  have HF : Hid (¬ Foot E V w.heap.size) := HP.out.fresh hl (Nat.le_refl _)
  clear hB c0 c2 d0 q0 q1 q2 dt z0 z1 z2 z3 n0 n1 n2 n3 HP
  generalize (w.alloc (Obj.cells #[Value.string (E.nm t), Value.int IntKind.u8 3, Value.string (E.it i)] 39)).drew = w0 at *
  generalize w.heap.size = bx at *
  have c16 : w0.cell? ⟨E.br, 16, none⟩ = some (.slice (some ⟨E.bb, 0, none⟩) 3 3) := HP0.out.fix.r.cell (by omega)
  have db := HP0.out.fix.bg.cell ht
  have HP1 : Hid (PM w0 E (beginSt s t) V) := by
    unfold beginSt
    rw [if_neg (by have := HB.out; omega)]
    exact HP0.out
  have HS1 := HS0
  have k0 := o0
  have k1 := o1
  have k2 := o2
  clear HP0 HS0 o0 o1 o2
  generalize w0 = w1 at *
  obtain ⟨s1, HX1⟩ : ∃ s1, Hid (s1 = beginSt s t) := ⟨_, rfl⟩
  replace HP1 : Hid (PM w1 E s1 V) := by rw [HX1.out]; exact HP1.out
  replace HG : Hid (Good s1) := by rw [HX1.out]; exact HG.out
  have HIV1 : Hid (inval s1.wr (s1.began t) (s1.reads t) = some (x, wt)) := by rw [HX1.out]; exact HIV.out
  clear HIV
  go_wp2_with fail
  refine (valid_bad E s1 V t ((i : Int) + 1) x wt _ hl HP1.out HG.out ht HX.out HWT.out HIV1.out).mono ?_
  rintro r w5 ⟨rfl, V5, hp5, hs5⟩
  have HR := hid (show ∃ V', PM w5 E (badSt E s1 t ((i : Int) + 1) x wt) V' ∧ Step E w V w5 V' from ⟨V5, hp5, HS1.out.trans hs5⟩)
  clear hp5 hs5
  go_wp2_with fail
  go_end0
  exact ⟨rfl, by rw [← HX1.out]; exact HR.out⟩

set_option maxRecDepth 100000 in
set_option maxHeartbeats 4000000 in
theorem sub_abortp (E : Env) (s : St) (V : Nat → Value) (i t : Nat) (w : World) (hl : Lay E) (h : PM w E s V) (hg : Good s) (hi : i < E.n) (htx : E.tx i = t) (hac : E.ac i = 4) (hb : ¬ s.began t < 0) :
    Calls Yba.prog 6 #[.pointer (some ⟨E.br, 0, none⟩), .int .i64 i] w fun r w' => r = .returned (.tuple #[]) ∧ ∃ V', PM w' E (abSt E (beginSt s t) t i) V' ∧ Step E w V w' V' := by
  have ht : t < 3 := htx ▸ hl.tx i hi
  have hti : (t : Int) < 3 := by omega
  have hii : (i : Int) < (E.n : Int) := by omega
  have hw1 : IntKind.i64.wrap ((i : Int) + 1) = (i : Int) + 1 := by have := hl.n; rw [IntKind.wrap_i64]; omega
  have c0 : w.cell? ⟨E.br, 0, none⟩ = some (.pointer (some ⟨E.bs, 0, none⟩)) := h.fix.r.cell (by omega)
  have c2 : w.cell? ⟨E.br, 2, none⟩ = some (.slice (some ⟨E.bt, 0, none⟩) E.n E.n) := h.fix.r.cell (by omega)
  have d0 := h.fix.st.sc
  have q0 := h.fix.st.o0 i hi
  have q1 := h.fix.st.o1 i hi
  have q2 := h.fix.st.o2 i hi
  have dt := h.fix.st.tx i hi
  rw [htx] at q0 dt
  rw [hac] at q1
  have z0 := cell_lt c0
  have z1 := cell_lt d0
  have z2 := cell_lt q0
  have z3 := cell_lt dt
  have n0 : E.br ≠ w.heap.size := by omega
  have n1 : E.bs ≠ w.heap.size := by omega
  have n2 : E.bo ≠ w.heap.size := by omega
  have n3 : E.bt ≠ w.heap.size := by omega
  have HB := hid hb
  have HP := hid h
  have HG := hid (good_begin (t := t) hg)
  clear h hg
  go_enter Yba.func6, Yba.ntmps6
  go_wp2_with fail
  go_region_held3 (fun w' => w'.cell? ⟨E.br, 0, none⟩ = some (.pointer (some ⟨E.bs, 0, none⟩)) ∧ w'.cell? ⟨E.bs, 0, none⟩ = some (.slice (some ⟨E.bo, 0, none⟩) E.n E.n) ∧ w'.cell? ⟨E.bo, i * 3, none⟩ = some (.string (E.nm t)) ∧ w'.cell? ⟨E.bo, i * 3 + 1, none⟩ = some (.int .u8 4) ∧ w'.cell? ⟨E.bo, i * 3 + 2, none⟩ = some (.string (E.it i)) ∧ w'.cell? ⟨E.br, 2, none⟩ = some (.slice (some ⟨E.bt, 0, none⟩) E.n E.n) ∧ w'.cell? ⟨E.bt, i, none⟩ = some (.int .i64 (t : Int)))
    (go_keep) (fail)
  have hB : Below w.heap.size w (w.alloc (Obj.cells #[Value.string (E.nm t), Value.int IntKind.u8 4, Value.string (E.it i)] 39)).drew := ((Below.refl _ _).alloc (Nat.le_refl _) _).drew
  have o0 : ((w.alloc (Obj.cells #[Value.string (E.nm t), Value.int IntKind.u8 4, Value.string (E.it i)] 39)).drew).cell? ⟨w.heap.size, 0, none⟩ = some (Value.string (E.nm t)) := by go_simp
  have o1 : ((w.alloc (Obj.cells #[Value.string (E.nm t), Value.int IntKind.u8 4, Value.string (E.it i)] 39)).drew).cell? ⟨w.heap.size, 1, none⟩ = some (Value.int .u8 4) := by go_simp
  have o2 : ((w.alloc (Obj.cells #[Value.string (E.nm t), Value.int IntKind.u8 4, Value.string (E.it i)] 39)).drew).cell? ⟨w.heap.size, 2, none⟩ = some (Value.string (E.it i)) := by go_simp
  have HP0 := hid (HP.out.below hl hB)
  have HS0 := hid (Step.of_below (E := E) (V := V) hB)
  have HF : Hid (¬ Foot E V w.heap.size) := HP.out.fresh hl (Nat.le_refl _)
  clear hB c0 c2 d0 q0 q1 q2 dt z0 z1 z2 z3 n0 n1 n2 n3 HP
  generalize (w.alloc (Obj.cells #[Value.string (E.nm t), Value.int IntKind.u8 4, Value.string (E.it i)] 39)).drew = w0 at *
  generalize w.heap.size = bx at *
  have c16 : w0.cell? ⟨E.br, 16, none⟩ = some (.slice (some ⟨E.bb, 0, none⟩) 3 3) := HP0.out.fix.r.cell (by omega)
  have db := HP0.out.fix.bg.cell ht
  have HP1 : Hid (PM w0 E (beginSt s t) V) := by
    unfold beginSt
    rw [if_neg (by have := HB.out; omega)]
    exact HP0.out
  have HS1 := HS0
  have k0 := o0
  have k1 := o1
  have k2 := o2
  clear HP0 HS0 o0 o1 o2
  generalize w0 = w1 at *
  obtain ⟨s1, HX1⟩ : ∃ s1, Hid (s1 = beginSt s t) := ⟨_, rfl⟩
  replace HP1 : Hid (PM w1 E s1 V) := by rw [HX1.out]; exact HP1.out
  replace HG : Hid (Good s1) := by rw [HX1.out]; exact HG.out
  have HEV : Hid ((endSt s1 t).ev.length ≤ 1000000) := by have := HG.out.ev; show s1.ev.length ≤ _; omega
  go_wp2_with fail
  refine (end_run E s1 V t _ hl HP1.out ht).mono ?_
  rintro r w3 ⟨rfl, V3, hp3, hs3⟩
  have HP3 := hid hp3
  have HS3 := hid (HS1.out.trans hs3)
  have m0 := hs3.kept.cell k0 HF.out
  have m1 := hs3.kept.cell k1 HF.out
  have m2 := hs3.kept.cell k2 HF.out
  have HF3 : Hid (¬ Foot E V3 bx) := fun hf => (hs3.foot bx hf).elim HF.out (fun hh => by have := cell_lt k0; omega)
  clear hp3 hs3 k0 k1 k2 HP1 HS1 HF
  go_wp2_with fail
  go_region_held3 (fun w' => w'.cell? ⟨bx, 0, none⟩ = some (.string (E.nm t)) ∧ w'.cell? ⟨bx, 1, none⟩ = some (.int .u8 4) ∧ w'.cell? ⟨bx, 2, none⟩ = some (.string (E.it i)))
    (first | exact ⟨p0, p1, p2⟩ | go_keep)
    (first | (go_at_call 11; refine (exec_run E (endSt s1 t) V3 t ((i : Int) + 1) (E.nm t) 4 (E.it i) _ hl (by exact HP3.out.below hl (Below.refl _ _).drew) ht (Or.inr (Or.inr (Or.inr rfl))) HEV.out).mono ?_; rintro r w5 ⟨rfl, V5, hp5, hs5, hv5⟩; have p0 := hs5.kept.cell (by exact m0) HF3.out; have p1 := hs5.kept.cell (by exact m1) HF3.out; have p2 := hs5.kept.cell (by exact m2) HF3.out))
  have HR := hid (show ∃ V', PM w5 E (abSt E s1 t i) V' ∧ Step E w V w5 V' from ⟨V5, hp5, (HS3.out.trans (Step.of_below (Below.refl _ _).drew)).trans hs5⟩)
  clear hp5 hs5 hv5 p0 p1 p2
  go_wp2_with fail
  go_end0
  exact ⟨rfl, by rw [← HX1.out]; exact HR.out⟩

end Go.Proofs.Ybulkiec
