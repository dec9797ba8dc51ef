/-
  LawS0444BRun: (*optimistic).submit, a read.
-/
import Derived.Test.YbulkiecSubA
namespace Go.Proofs.Ybulkiec
open Go.ChangeShapes Go.WideShapes Go.ChangeAt Go.RowKit
set_option linter.unusedVariables false
attribute [local go_sem ↓] Go.wp_at_zero Go.wp_at_succ

set_option linter.unusedSimpArgs false
/-- What a read makes of the state. -/
def rdSt (E : Env) (s : St) (t i : Nat) : St := { s with reads := upd s.reads t (s.reads t ++ [E.ix i]), ev := s.ev ++ [exEv ((i : Int) + 1) (E.nm t) 1 (E.it i)], ended := upd s.ended t false }

set_option maxRecDepth 100000 in
set_option maxHeartbeats 4000000 in
theorem sub_readn (E : Env) (s : St) (V : Nat → Value) (i t : Nat) (w : World) (hl : Lay E) (h : PM w E s V) (hg : Good s) (hi : i < E.n) (htx : E.tx i = t) (hac : E.ac i = 1) (hb : s.began t < 0) :
    Calls Yba.prog 6 #[.pointer (some ⟨E.br, 0, none⟩), .int .i64 i] w fun r w' => r = .returned (.tuple #[]) ∧ ∃ V', PM w' E (rdSt E (beginSt s t) t i) V' ∧ Step E w V w' V' := by
  have ht : t < 3 := htx ▸ hl.tx i hi
  have hti : (t : Int) < 3 := by omega
  have hii : (i : Int) < (E.n : Int) := by omega
  have hw1 : IntKind.i64.wrap ((i : Int) + 1) = (i : Int) + 1 := by have := hl.n; rw [IntKind.wrap_i64]; omega
  have c0 : w.cell? ⟨E.br, 0, none⟩ = some (.pointer (some ⟨E.bs, 0, none⟩)) := h.fix.r.cell (by omega)
  have c2 : w.cell? ⟨E.br, 2, none⟩ = some (.slice (some ⟨E.bt, 0, none⟩) E.n E.n) := h.fix.r.cell (by omega)
  have d0 := h.fix.st.sc
  have q0 := h.fix.st.o0 i hi
  have q1 := h.fix.st.o1 i hi
  have q2 := h.fix.st.o2 i hi
  have dt := h.fix.st.tx i hi
  rw [htx] at q0 dt
  rw [hac] at q1
  have z0 := cell_lt c0
  have z1 := cell_lt d0
  have z2 := cell_lt q0
  have z3 := cell_lt dt
  have n0 : E.br ≠ w.heap.size := by omega
  have n1 : E.bs ≠ w.heap.size := by omega
  have n2 : E.bo ≠ w.heap.size := by omega
  have n3 : E.bt ≠ w.heap.size := by omega
  have HB := hid hb
  have HP := hid h
  have HG := hid (good_begin (t := t) hg)
  clear h hg
  go_enter Yba.func6, Yba.ntmps6
  go_wp2_with fail
  go_region_held3 (fun w' => w'.cell? ⟨E.br, 0, none⟩ = some (.pointer (some ⟨E.bs, 0, none⟩)) ∧ w'.cell? ⟨E.bs, 0, none⟩ = some (.slice (some ⟨E.bo, 0, none⟩) E.n E.n) ∧ w'.cell? ⟨E.bo, i * 3, none⟩ = some (.string (E.nm t)) ∧ w'.cell? ⟨E.bo, i * 3 + 1, none⟩ = some (.int .u8 1) ∧ w'.cell? ⟨E.bo, i * 3 + 2, none⟩ = some (.string (E.it i)) ∧ w'.cell? ⟨E.br, 2, none⟩ = some (.slice (some ⟨E.bt, 0, none⟩) E.n E.n) ∧ w'.cell? ⟨E.bt, i, none⟩ = some (.int .i64 (t : Int)))
    (go_keep) (fail)
  have hB : Below w.heap.size w (w.alloc (Obj.cells #[Value.string (E.nm t), Value.int IntKind.u8 1, Value.string (E.it i)] 39)).drew := ((Below.refl _ _).alloc (Nat.le_refl _) _).drew
  have o0 : ((w.alloc (Obj.cells #[Value.string (E.nm t), Value.int IntKind.u8 1, Value.string (E.it i)] 39)).drew).cell? ⟨w.heap.size, 0, none⟩ = some (Value.string (E.nm t)) := by go_simp
  have o1 : ((w.alloc (Obj.cells #[Value.string (E.nm t), Value.int IntKind.u8 1, Value.string (E.it i)] 39)).drew).cell? ⟨w.heap.size, 1, none⟩ = some (Value.int .u8 1) := by go_simp
  have o2 : ((w.alloc (Obj.cells #[Value.string (E.nm t), Value.int IntKind.u8 1, Value.string (E.it i)] 39)).drew).cell? ⟨w.heap.size, 2, none⟩ = some (Value.string (E.it i)) := by go_simp
  have HP0 := hid (HP.out.below hl hB)
  have HS0 := hid (Step.of_below (E := E) (V := V) hB)
  have HF : Hid (¬ Foot E V w.heap.size) := HP.out.fresh hl (Nat.le_refl _)
  clear hB c0 c2 d0 q0 q1 q2 dt z0 z1 z2 z3 n0 n1 n2 n3 HP
  generalize (w.alloc (Obj.cells #[Value.string (E.nm t), Value.int IntKind.u8 1, Value.string (E.it i)] 39)).drew = w0 at *
  generalize w.heap.size = bx at *
  have c16 : w0.cell? ⟨E.br, 16, none⟩ = some (.slice (some ⟨E.bb, 0, none⟩) 3 3) := HP0.out.fix.r.cell (by omega)
  have c15 : w0.cell? ⟨E.br, 15, none⟩ = some (.int .i64 (s.commits : Int)) := HP0.out.fix.r.cell (by omega)
  have db := HP0.out.fix.bg.cell ht
  have fb := HP0.out.fix.bg.frozen t
  have nb : E.br ≠ E.bb := by obtain ⟨l1, l2, l3, l4, l5, l6, l7, l8, l9, l10, l11, l12, l13, l14, l15, l16, _⟩ := hl; omega
  go_wp2_with fail
  go_region_held3 (fun w' => w'.cell? ⟨E.br, 16, none⟩ = some (.slice (some ⟨E.bb, 0, none⟩) 3 3) ∧ w'.cell? ⟨E.br, 15, none⟩ = some (.int .i64 (s.commits : Int)))
    (first | exact ⟨set_far c16 nb, set_far c15 nb⟩ | go_keep) (fail)
  obtain ⟨p1, sg1⟩ := HP0.out.set_bg hl t (s.commits : Int)
  have HP1 : Hid (PM (w0.setCell ⟨E.bb, t, none⟩ (.int .i64 (s.commits : Int))).drew E (beginSt s t) V) := by
    unfold beginSt
    rw [if_pos (by have := HB.out; omega)]
    exact p1.below hl (Below.refl _ _).drew
  have HS1 := hid ((HS0.out.trans sg1).trans (Step.of_below (Below.refl _ _).drew))
  have k0 := (sg1.trans (Step.of_below (Below.refl _ _).drew)).kept.cell o0 HF.out
  have k1 := (sg1.trans (Step.of_below (Below.refl _ _).drew)).kept.cell o1 HF.out
  have k2 := (sg1.trans (Step.of_below (Below.refl _ _).drew)).kept.cell o2 HF.out
  clear p1 sg1 HP0 HS0 o0 o1 o2 c16 c15 db fb nb
  generalize (w0.setCell ⟨E.bb, t, none⟩ (.int .i64 (s.commits : Int))).drew = w1 at *
  obtain ⟨s1, HX1⟩ : ∃ s1, Hid (s1 = beginSt s t) := ⟨_, rfl⟩
  replace HP1 : Hid (PM w1 E s1 V) := by rw [HX1.out]; exact HP1.out
  replace HG : Hid (Good s1) := by rw [HX1.out]; exact HG.out
  obtain ⟨i0, hi0, hz0, hz1, hz2⟩ := info_parts Yba.info3
  have hlen := HG.out.rd t ht
  have HEV : Hid (s1.ev.length ≤ 1000000) := by have := HG.out.ev; show _ ≤ _; omega
  have cS : w1.cell? ⟨E.br, 17, none⟩ = some (.slice (some ⟨E.brd, 0, none⟩) 3 3) := HP1.out.fix.r.cell (by omega)
  obtain ⟨aw, capw, hvw, hroww⟩ := row_shape (HP1.out.own_rd ht)
  clear hroww
  have dS : w1.cell? ⟨E.brd, t, none⟩ = some (.slice aw (s1.reads t).length capw) := by rw [← hvw]; exact HP1.out.fix.rd.cell ht
  have HVW := hid hvw
  have nbb : E.br ≠ E.brd := by obtain ⟨l1, l2, l3, l4, l5, l6, l7, l8, l9, l10, l11, l12, l13, l14, l15, l16, _⟩ := hl; omega
  have nbi : E.bit ≠ E.brd := by obtain ⟨l1, l2, l3, l4, l5, l6, l7, l8, l9, l10, l11, l12, l13, l14, l15, l16, _⟩ := hl; omega
  clear hvw
  obtain ⟨hio, hix⟩ := hl.io i hi (Or.inl hac)
  have c6 : w1.cell? ⟨E.br, 6, none⟩ = some (.slice (some ⟨E.bit, 0, none⟩) E.n E.n) := HP1.out.fix.r.cell (by omega)
  have di : w1.cell? ⟨E.bit, i, none⟩ = some (.int .i64 (E.ix i : Int)) := by rw [← hio]; exact HP1.out.fix.st.io i hi
  replace hio := hid hio
  go_wp2_with fail
  have nsz : E.brd ≠ w1.heap.size := by have := cell_lt dS; omega
  have dS2 : (w1.alloc (Obj.cells #[Value.int IntKind.i64 (E.ix i : Int)] 3)).cell? ⟨E.brd, t, none⟩ = some (.slice aw (s1.reads t).length capw) := ((Kept.refl (fun _ => False) w1).alloc _).cell dS (fun h => h)
  have nsr : E.br ≠ w1.heap.size := by have := cell_lt cS; omega
  have nst : E.bit ≠ w1.heap.size := by have := cell_lt di; omega
  refine wp_region_noPanic ?_
  refine wp_region_held_drew (S := fun w' => w'.cell? ⟨E.br, 17, none⟩ = some (.slice (some ⟨E.brd, 0, none⟩) 3 3) ∧ w'.cell? ⟨E.br, 6, none⟩ = some (.slice (some ⟨E.bit, 0, none⟩) E.n E.n) ∧ w'.cell? ⟨E.bit, i, none⟩ = some (.int .i64 (E.ix i : Int))) (by kernel_rfl) (by go_keep) (fun hHeld => ?_)
  refine wpAnyH_take (i := 0) (oi := { dst := some 48, op := Op.move (Operand.tmp 0), type := 41, pos := _, after := #[], guard := none }) (v := ?_) rfl (by kernel_rfl) (by kernel_rfl) (by kernel_rfl) (fun _ _ _ h => h) (Or.inl ⟨by rfl, ?_⟩) (by assumption) ?_
  rotate_left
  · intro w hSw
    (try dsimp only at hSw)
    go_simp
    try with_reducible rfl
  simp only [Act.put, List.setIfInBounds_toArray, List.set_cons_zero, List.set_cons_succ]
  refine wpAnyH_take (i := 1) (oi := { dst := some 49, op := Op.nilCheck (Operand.tmp 48), type := 0, pos := _, after := #[{ on := 0, ground := Ground.data }], guard := none }) (v := ?_) rfl (by kernel_rfl) (by kernel_rfl) (by kernel_rfl) (fun _ _ _ h => h) (Or.inl ⟨by rfl, ?_⟩) (by assumption) ?_
  rotate_left
  · intro w hSw
    (try dsimp only at hSw)
    go_simp
    try with_reducible rfl
  simp only [Act.put, List.setIfInBounds_toArray, List.set_cons_zero, List.set_cons_succ]
  refine wpAnyH_take (i := 2) (oi := { dst := some 50, op := Op.fieldAddr 56 (Operand.tmp 49) 3, type := 0, pos := _, after := #[{ on := 1, ground := Ground.data }], guard := none }) (v := ?_) rfl (by kernel_rfl) (by kernel_rfl) (by kernel_rfl) (fun _ _ _ h => h) (Or.inl ⟨by rfl, ?_⟩) (by assumption) ?_
  rotate_left
  · intro w hSw
    (try dsimp only at hSw)
    go_simp
    try with_reducible rfl
  simp only [Act.put, List.setIfInBounds_toArray, List.set_cons_zero, List.set_cons_succ]
  refine wpAnyH_take (i := 3) (oi := { dst := some 51, op := Op.load 50 (Operand.tmp 50), type := 50, pos := _, after := #[{ on := 2, ground := Ground.data }], guard := none }) (v := ?_) rfl (by kernel_rfl) (by kernel_rfl) (by kernel_rfl) (fun _ _ _ h => h) (Or.inl ⟨by rfl, ?_⟩) (by assumption) ?_
  rotate_left
  · intro w hSw
    (try dsimp only at hSw)
    go_simp
    try with_reducible rfl
  simp only [Act.put, List.setIfInBounds_toArray, List.set_cons_zero, List.set_cons_succ]
  refine wpAnyH_take (i := 4) (oi := { dst := some 52, op := Op.move (Operand.tmp 5), type := 3, pos := _, after := #[], guard := none }) (v := ?_) rfl (by kernel_rfl) (by kernel_rfl) (by kernel_rfl) (fun _ _ _ h => h) (Or.inl ⟨by rfl, ?_⟩) (by assumption) ?_
  rotate_left
  · intro w hSw
    (try dsimp only at hSw)
    go_simp
    try with_reducible rfl
  simp only [Act.put, List.setIfInBounds_toArray, List.set_cons_zero, List.set_cons_succ]
  refine wpAnyH_take (i := 5) (oi := { dst := some 53, op := Op.move (Operand.tmp 0), type := 41, pos := _, after := #[], guard := none }) (v := ?_) rfl (by kernel_rfl) (by kernel_rfl) (by kernel_rfl) (fun _ _ _ h => h) (Or.inl ⟨by rfl, ?_⟩) (by assumption) ?_
  rotate_left
  · intro w hSw
    (try dsimp only at hSw)
    go_simp
    try with_reducible rfl
  simp only [Act.put, List.setIfInBounds_toArray, List.set_cons_zero, List.set_cons_succ]
  refine wpAnyH_take (i := 6) (oi := { dst := some 54, op := Op.nilCheck (Operand.tmp 53), type := 0, pos := _, after := #[{ on := 5, ground := Ground.data }], guard := none }) (v := ?_) rfl (by kernel_rfl) (by kernel_rfl) (by kernel_rfl) (fun _ _ _ h => h) (Or.inl ⟨by rfl, ?_⟩) (by assumption) ?_
  rotate_left
  · intro w hSw
    (try dsimp only at hSw)
    go_simp
    try with_reducible rfl
  simp only [Act.put, List.setIfInBounds_toArray, List.set_cons_zero, List.set_cons_succ]
  refine wpAnyH_take (i := 7) (oi := { dst := some 55, op := Op.fieldAddr 56 (Operand.tmp 54) 3, type := 0, pos := _, after := #[{ on := 6, ground := Ground.data }], guard := none }) (v := ?_) rfl (by kernel_rfl) (by kernel_rfl) (by kernel_rfl) (fun _ _ _ h => h) (Or.inl ⟨by rfl, ?_⟩) (by assumption) ?_
  rotate_left
  · intro w hSw
    (try dsimp only at hSw)
    go_simp
    try with_reducible rfl
  simp only [Act.put, List.setIfInBounds_toArray, List.set_cons_zero, List.set_cons_succ]
  refine wpAnyH_take (i := 8) (oi := { dst := some 56, op := Op.load 50 (Operand.tmp 55), type := 50, pos := _, after := #[{ on := 7, ground := Ground.data }], guard := none }) (v := ?_) rfl (by kernel_rfl) (by kernel_rfl) (by kernel_rfl) (fun _ _ _ h => h) (Or.inl ⟨by rfl, ?_⟩) (by assumption) ?_
  rotate_left
  · intro w hSw
    (try dsimp only at hSw)
    go_simp
    try with_reducible rfl
  simp only [Act.put, List.setIfInBounds_toArray, List.set_cons_zero, List.set_cons_succ]
  refine wpAnyH_take (i := 9) (oi := { dst := some 57, op := Op.move (Operand.tmp 5), type := 3, pos := _, after := #[], guard := none }) (v := ?_) rfl (by kernel_rfl) (by kernel_rfl) (by kernel_rfl) (fun _ _ _ h => h) (Or.inl ⟨by rfl, ?_⟩) (by assumption) ?_
  rotate_left
  · intro w hSw
    (try dsimp only at hSw)
    go_simp
    try with_reducible rfl
  simp only [Act.put, List.setIfInBounds_toArray, List.set_cons_zero, List.set_cons_succ]
  refine wpAnyH_take (i := 10) (oi := { dst := some 58, op := Op.indexAddr 50 (Operand.tmp 56) (Operand.tmp 57), type := 0, pos := _, after := #[{ on := 8, ground := Ground.data }, { on := 9, ground := Ground.data }], guard := none }) (v := ?_) rfl (by kernel_rfl) (by kernel_rfl) (by kernel_rfl) (fun _ _ _ h => h) (Or.inl ⟨by rfl, ?_⟩) (by assumption) ?_
  rotate_left
  · intro w hSw
    (try dsimp only at hSw)
    go_simp
    try with_reducible rfl
  simp only [Act.put, List.setIfInBounds_toArray, List.set_cons_zero, List.set_cons_succ]
  refine wpAnyH_take (i := 12) (oi := { dst := some 60, op := Op.move (Operand.tmp 0), type := 41, pos := _, after := #[], guard := none }) (v := ?_) rfl (by kernel_rfl) (by kernel_rfl) (by kernel_rfl) (fun _ _ _ h => h) (Or.inl ⟨by rfl, ?_⟩) (by assumption) ?_
  rotate_left
  · intro w hSw
    (try dsimp only at hSw)
    go_simp
    try with_reducible rfl
  simp only [Act.put, List.setIfInBounds_toArray, List.set_cons_zero, List.set_cons_succ]
  refine wpAnyH_take (i := 13) (oi := { dst := some 61, op := Op.nilCheck (Operand.tmp 60), type := 0, pos := _, after := #[{ on := 12, ground := Ground.data }], guard := none }) (v := ?_) rfl (by kernel_rfl) (by kernel_rfl) (by kernel_rfl) (fun _ _ _ h => h) (Or.inl ⟨by rfl, ?_⟩) (by assumption) ?_
  rotate_left
  · intro w hSw
    (try dsimp only at hSw)
    go_simp
    try with_reducible rfl
  simp only [Act.put, List.setIfInBounds_toArray, List.set_cons_zero, List.set_cons_succ]
  refine wpAnyH_take (i := 14) (oi := { dst := some 62, op := Op.fieldAddr 56 (Operand.tmp 61) 0, type := 0, pos := _, after := #[{ on := 13, ground := Ground.data }], guard := none }) (v := ?_) rfl (by kernel_rfl) (by kernel_rfl) (by kernel_rfl) (fun _ _ _ h => h) (Or.inl ⟨by rfl, ?_⟩) (by assumption) ?_
  rotate_left
  · intro w hSw
    (try dsimp only at hSw)
    go_simp
    try with_reducible rfl
  simp only [Act.put, List.setIfInBounds_toArray, List.set_cons_zero, List.set_cons_succ]
  refine wpAnyH_take (i := 15) (oi := { dst := some 63, op := Op.fieldAddr 53 (Operand.tmp 62) 2, type := 0, pos := _, after := #[{ on := 14, ground := Ground.data }], guard := none }) (v := ?_) rfl (by kernel_rfl) (by kernel_rfl) (by kernel_rfl) (fun _ _ _ h => h) (Or.inl ⟨by rfl, ?_⟩) (by assumption) ?_
  rotate_left
  · intro w hSw
    (try dsimp only at hSw)
    go_simp
    try with_reducible rfl
  simp only [Act.put, List.setIfInBounds_toArray, List.set_cons_zero, List.set_cons_succ]
  refine wpAnyH_take (i := 16) (oi := { dst := some 64, op := Op.fieldAddr 45 (Operand.tmp 63) 1, type := 0, pos := _, after := #[{ on := 15, ground := Ground.data }], guard := none }) (v := ?_) rfl (by kernel_rfl) (by kernel_rfl) (by kernel_rfl) (fun _ _ _ h => h) (Or.inl ⟨by rfl, ?_⟩) (by assumption) ?_
  rotate_left
  · intro w hSw
    (try dsimp only at hSw)
    go_simp
    try with_reducible rfl
  simp only [Act.put, List.setIfInBounds_toArray, List.set_cons_zero, List.set_cons_succ]
  refine wpAnyH_take (i := 17) (oi := { dst := some 65, op := Op.load 28 (Operand.tmp 64), type := 28, pos := _, after := #[{ on := 16, ground := Ground.data }], guard := none }) (v := ?_) rfl (by kernel_rfl) (by kernel_rfl) (by kernel_rfl) (fun _ _ _ h => h) (Or.inl ⟨by rfl, ?_⟩) (by assumption) ?_
  rotate_left
  · intro w hSw
    (try dsimp only at hSw)
    go_simp
    try with_reducible rfl
  simp only [Act.put, List.setIfInBounds_toArray, List.set_cons_zero, List.set_cons_succ]
  refine wpAnyH_take (i := 18) (oi := { dst := some 66, op := Op.move (Operand.tmp 1), type := 3, pos := _, after := #[], guard := none }) (v := ?_) rfl (by kernel_rfl) (by kernel_rfl) (by kernel_rfl) (fun _ _ _ h => h) (Or.inl ⟨by rfl, ?_⟩) (by assumption) ?_
  rotate_left
  · intro w hSw
    (try dsimp only at hSw)
    go_simp
    try with_reducible rfl
  simp only [Act.put, List.setIfInBounds_toArray, List.set_cons_zero, List.set_cons_succ]
  refine wpAnyH_take (i := 19) (oi := { dst := some 67, op := Op.indexAddr 28 (Operand.tmp 65) (Operand.tmp 66), type := 0, pos := _, after := #[{ on := 17, ground := Ground.data }, { on := 18, ground := Ground.data }], guard := none }) (v := ?_) rfl (by kernel_rfl) (by kernel_rfl) (by kernel_rfl) (fun _ _ _ h => h) (Or.inl ⟨by rfl, ?_⟩) (by assumption) ?_
  rotate_left
  · intro w hSw
    (try dsimp only at hSw)
    go_simp
    try with_reducible rfl
  simp only [Act.put, List.setIfInBounds_toArray, List.set_cons_zero, List.set_cons_succ]
  refine wpAnyH_take (i := 20) (oi := { dst := some 68, op := Op.load 3 (Operand.tmp 67), type := 3, pos := _, after := #[{ on := 19, ground := Ground.data }], guard := none }) (v := ?_) rfl (by kernel_rfl) (by kernel_rfl) (by kernel_rfl) (fun _ _ _ h => h) (Or.inl ⟨by rfl, ?_⟩) (by assumption) ?_
  rotate_left
  · intro w hSw
    (try dsimp only at hSw)
    go_simp
    try with_reducible rfl
  simp only [Act.put, List.setIfInBounds_toArray, List.set_cons_zero, List.set_cons_succ]
  refine wpAnyH_ready (rs := [11, 21]) (by kernel_rfl) (by simp) ?_
  refine AllReadyH.cons (o := { dst := some 59, op := Op.load 28 (Operand.tmp 58), type := 28, pos := _, after := #[{ on := 10, ground := Ground.data }], guard := none }) rfl (fun K hK => ?_) ?_
  · go_simp
    refine hK.out _ _ (by first | exact hHeld | go_keep) (fun hHeld => ?_)
    clear hK K
    try simp only [Act.put, List.setIfInBounds_toArray, List.set_cons_zero, List.set_cons_succ]
    refine wpAnyH_ready (rs := [21]) (by kernel_rfl) (by simp) ?_
    refine AllReadyH.cons (o := { dst := some 69, op := Op.buildSlice 28 1 #[(0, Operand.tmp 68)], type := 28, pos := _, after := #[{ on := 20, ground := Ground.data }], guard := none }) rfl (fun K hK => ?_) AllReadyH.nil
    go_simp
    refine hK.out _ _ (by first | exact hHeld | go_keep) (fun hHeld => ?_)
    clear hK K
    try simp only [Act.put, List.setIfInBounds_toArray, List.set_cons_zero, List.set_cons_succ]
    refine wpAnyH_ready (rs := [22]) (by kernel_rfl) (by simp) ?_
    refine AllReadyH.cons (o := { dst := some 70, op := Op.call { callee := Callee.builtin Builtin.append, args := #[Operand.tmp 59, Operand.tmp 69], argTypes := #[28, 28] }, type := 28, pos := _, after := #[{ on := 11, ground := Ground.data }, { on := 21, ground := Ground.data }], guard := none }) rfl (fun K hK => ?_) AllReadyH.nil
    (refine step_append_lies _ rfl _ _ 28 rfl E.base 3 i0 (.int .i64 0) 1 8 Yba.underlying28 hi0 hz0 hz1 hz2 rfl (by decide) _ _ (ints (s1.reads t)) rfl (by rw [← HVW.out]; exact (HP1.out.below hl (by repeat (first | exact Below.refl _ _ | exact below_drewN (Below.refl _ _) _ | apply Below.drew | refine Below.alloc ?_ (by simp) _))).own_rd ht) ⟨w1.heap.size, 0, none⟩ 1 1 [.int .i64 (E.ix i : Int)] rfl rfl (news1 _ #[.int .i64 (E.ix i : Int)] 3 _ (by simp)) (ints_oneCell .i64 [(E.ix i : Int)]) (by decide) (by unfold maxLen; omega) (by omega) (by have := HP1.out.fix.size; simp; omega) (w1.heap.size + 1) (by simp) ?_; intro g2 cap2 w2 hown2 hg2 hat2 hlt3; obtain ⟨HPS, pS, p6, pia, pw, pf⟩ := after_rd hl HP1.out (by repeat (first | exact Below.refl _ _ | exact below_drewN (Below.refl _ _) _ | apply Below.drew | refine Below.alloc ?_ (by simp) _)) HVW.out ht hown2 hg2 hat2 (by simp); replace HPS := hid HPS; have pii := pia i hi; rw [hio.out] at pii; clear pia hown2 hg2 hat2 hlt3)
    refine hK.out _ _ ⟨pS, p6, pii⟩ (fun hHeld => ?_)
    clear hK K
    try simp only [Act.put, List.setIfInBounds_toArray, List.set_cons_zero, List.set_cons_succ]
    refine wpAnyH_take (i := 23) (oi := { dst := some 71, op := Op.indexAddr 50 (Operand.tmp 51) (Operand.tmp 52), type := 0, pos := _, after := #[{ on := 3, ground := Ground.data }, { on := 4, ground := Ground.data }, { on := 0, ground := Ground.phase }, { on := 1, ground := Ground.phase }, { on := 2, ground := Ground.phase }, { on := 3, ground := Ground.phase }, { on := 4, ground := Ground.phase }, { on := 5, ground := Ground.phase }, { on := 6, ground := Ground.phase }, { on := 7, ground := Ground.phase }, { on := 8, ground := Ground.phase }, { on := 9, ground := Ground.phase }, { on := 10, ground := Ground.phase }, { on := 11, ground := Ground.phase }, { on := 12, ground := Ground.phase }, { on := 13, ground := Ground.phase }, { on := 14, ground := Ground.phase }, { on := 15, ground := Ground.phase }, { on := 16, ground := Ground.phase }, { on := 17, ground := Ground.phase }, { on := 18, ground := Ground.phase }, { on := 19, ground := Ground.phase }, { on := 20, ground := Ground.phase }, { on := 21, ground := Ground.phase }, { on := 22, ground := Ground.phase }], guard := none }) (v := ?_) rfl (by kernel_rfl) (by kernel_rfl) (by kernel_rfl) (fun _ _ _ h => h) (Or.inl ⟨by rfl, ?_⟩) (by assumption) ?_
    rotate_left
    · intro w hSw
      (try dsimp only at hSw)
      go_simp
      try with_reducible rfl
    simp only [Act.put, List.setIfInBounds_toArray, List.set_cons_zero, List.set_cons_succ]
    refine wpAnyH_ready (rs := [24]) (by kernel_rfl) (by simp) ?_
    refine AllReadyH.cons (o := { dst := none, op := Op.store 28 (Operand.tmp 71) (Operand.tmp 70), type := 0, pos := _, after := #[{ on := 23, ground := Ground.data }, { on := 22, ground := Ground.data }, { on := 22, ground := Ground.chain }, { on := 0, ground := Ground.phase }, { on := 1, ground := Ground.phase }, { on := 2, ground := Ground.phase }, { on := 3, ground := Ground.phase }, { on := 4, ground := Ground.phase }, { on := 5, ground := Ground.phase }, { on := 6, ground := Ground.phase }, { on := 7, ground := Ground.phase }, { on := 8, ground := Ground.phase }, { on := 9, ground := Ground.phase }, { on := 10, ground := Ground.phase }, { on := 11, ground := Ground.phase }, { on := 12, ground := Ground.phase }, { on := 13, ground := Ground.phase }, { on := 14, ground := Ground.phase }, { on := 15, ground := Ground.phase }, { on := 16, ground := Ground.phase }, { on := 17, ground := Ground.phase }, { on := 18, ground := Ground.phase }, { on := 19, ground := Ground.phase }, { on := 20, ground := Ground.phase }, { on := 21, ground := Ground.phase }, { on := 22, ground := Ground.phase }], guard := none }) rfl (fun K hK => ?_) AllReadyH.nil
    go_simp
    refine hK.out _ _ ⟨set_far pS nbb, set_far p6 nbb, set_far pii nbi⟩ (fun hHeld => ?_)
    clear hK K
    try simp only [Act.put, List.setIfInBounds_toArray, List.set_cons_zero, List.set_cons_succ]
    refine wpAnyH_done (by kernel_rfl) ?_ _
    refine NoPanic.normal ?_
    obtain ⟨hpt, hst⟩ := HPS.out
    have HP3 := hid hpt
    have HS3 := hid (HS1.out.trans hst)
    have m0 := hst.kept.cell k0 HF.out
    have m1 := hst.kept.cell k1 HF.out
    have m2 := hst.kept.cell k2 HF.out
    have HF3 : Hid (¬ Foot E (upd V (1 + t) (.slice (some ⟨g2, 0, none⟩) ((s1.reads t).length + 1) cap2)) bx) := fun hf => (hst.foot bx hf).elim HF.out (fun hh => by have := cell_lt k0; omega)
    clear hpt hst HPS pS p6 pw pf k0 k1 k2 HP1 HS1 HF
    generalize upd V (1 + t) (Value.slice (some ⟨g2, 0, none⟩) ((s1.reads t).length + 1) cap2) = V3 at *
    generalize w2.setCell ⟨E.brd, t, none⟩ (Value.slice (some ⟨g2, 0, none⟩) ((s1.reads t).length + 1) cap2) = w3 at *
    go_wp2_with fail
    go_region_held3 (fun w' => w'.cell? ⟨bx, 0, none⟩ = some (.string (E.nm t)) ∧ w'.cell? ⟨bx, 1, none⟩ = some (.int .u8 1) ∧ w'.cell? ⟨bx, 2, none⟩ = some (.string (E.it i)))
      (first | exact ⟨p0, p1, p2⟩ | go_keep)
      (first | (go_at_call 11; refine (exec_run E { s1 with reads := upd s1.reads t (s1.reads t ++ [E.ix i]) } V3 t ((i : Int) + 1) (E.nm t) 1 (E.it i) _ hl (by exact HP3.out.below hl (Below.refl _ _).drew) ht (Or.inl rfl) HEV.out).mono ?_; rintro r w5 ⟨rfl, V5, hp5, hs5, hv5⟩; have p0 := hs5.kept.cell (by exact m0) HF3.out; have p1 := hs5.kept.cell (by exact m1) HF3.out; have p2 := hs5.kept.cell (by exact m2) HF3.out))
    have HR := hid (show ∃ V', PM w5 E (rdSt E s1 t i) V' ∧ Step E w V w5 V' from ⟨V5, hp5, (HS3.out.trans (Step.of_below (Below.refl _ _).drew)).trans hs5⟩)
    clear hp5 hs5 hv5 p0 p1 p2
    go_wp2_with fail
    go_end0
    exact ⟨rfl, by rw [← HX1.out]; exact HR.out⟩
  refine AllReadyH.cons (o := { dst := some 69, op := Op.buildSlice 28 1 #[(0, Operand.tmp 68)], type := 28, pos := _, after := #[{ on := 20, ground := Ground.data }], guard := none }) rfl (fun K hK => ?_) AllReadyH.nil
  go_simp
  refine hK.out _ _ (by first | exact hHeld | go_keep) (fun hHeld => ?_)
  clear hK K
  try simp only [Act.put, List.setIfInBounds_toArray, List.set_cons_zero, List.set_cons_succ]
  refine wpAnyH_ready (rs := [11]) (by kernel_rfl) (by simp) ?_
  refine AllReadyH.cons (o := { dst := some 59, op := Op.load 28 (Operand.tmp 58), type := 28, pos := _, after := #[{ on := 10, ground := Ground.data }], guard := none }) rfl (fun K hK => ?_) AllReadyH.nil
  go_simp
  refine hK.out _ _ (by first | exact hHeld | go_keep) (fun hHeld => ?_)
  clear hK K
  try simp only [Act.put, List.setIfInBounds_toArray, List.set_cons_zero, List.set_cons_succ]
  refine wpAnyH_ready (rs := [22]) (by kernel_rfl) (by simp) ?_
  refine AllReadyH.cons (o := { dst := some 70, op := Op.call { callee := Callee.builtin Builtin.append, args := #[Operand.tmp 59, Operand.tmp 69], argTypes := #[28, 28] }, type := 28, pos := _, after := #[{ on := 11, ground := Ground.data }, { on := 21, ground := Ground.data }], guard := none }) rfl (fun K hK => ?_) AllReadyH.nil
  (refine step_append_lies _ rfl _ _ 28 rfl E.base 3 i0 (.int .i64 0) 1 8 Yba.underlying28 hi0 hz0 hz1 hz2 rfl (by decide) _ _ (ints (s1.reads t)) rfl (by rw [← HVW.out]; exact (HP1.out.below hl (by repeat (first | exact Below.refl _ _ | exact below_drewN (Below.refl _ _) _ | apply Below.drew | refine Below.alloc ?_ (by simp) _))).own_rd ht) ⟨w1.heap.size, 0, none⟩ 1 1 [.int .i64 (E.ix i : Int)] rfl rfl (news1 _ #[.int .i64 (E.ix i : Int)] 3 _ (by simp)) (ints_oneCell .i64 [(E.ix i : Int)]) (by decide) (by unfold maxLen; omega) (by omega) (by have := HP1.out.fix.size; simp; omega) (w1.heap.size + 1) (by simp) ?_; intro g2 cap2 w2 hown2 hg2 hat2 hlt3; obtain ⟨HPS, pS, p6, pia, pw, pf⟩ := after_rd hl HP1.out (by repeat (first | exact Below.refl _ _ | exact below_drewN (Below.refl _ _) _ | apply Below.drew | refine Below.alloc ?_ (by simp) _)) HVW.out ht hown2 hg2 hat2 (by simp); replace HPS := hid HPS; have pii := pia i hi; rw [hio.out] at pii; clear pia hown2 hg2 hat2 hlt3)
  refine hK.out _ _ ⟨pS, p6, pii⟩ (fun hHeld => ?_)
  clear hK K
  try simp only [Act.put, List.setIfInBounds_toArray, List.set_cons_zero, List.set_cons_succ]
  refine wpAnyH_take (i := 23) (oi := { dst := some 71, op := Op.indexAddr 50 (Operand.tmp 51) (Operand.tmp 52), type := 0, pos := _, after := #[{ on := 3, ground := Ground.data }, { on := 4, ground := Ground.data }, { on := 0, ground := Ground.phase }, { on := 1, ground := Ground.phase }, { on := 2, ground := Ground.phase }, { on := 3, ground := Ground.phase }, { on := 4, ground := Ground.phase }, { on := 5, ground := Ground.phase }, { on := 6, ground := Ground.phase }, { on := 7, ground := Ground.phase }, { on := 8, ground := Ground.phase }, { on := 9, ground := Ground.phase }, { on := 10, ground := Ground.phase }, { on := 11, ground := Ground.phase }, { on := 12, ground := Ground.phase }, { on := 13, ground := Ground.phase }, { on := 14, ground := Ground.phase }, { on := 15, ground := Ground.phase }, { on := 16, ground := Ground.phase }, { on := 17, ground := Ground.phase }, { on := 18, ground := Ground.phase }, { on := 19, ground := Ground.phase }, { on := 20, ground := Ground.phase }, { on := 21, ground := Ground.phase }, { on := 22, ground := Ground.phase }], guard := none }) (v := ?_) rfl (by kernel_rfl) (by kernel_rfl) (by kernel_rfl) (fun _ _ _ h => h) (Or.inl ⟨by rfl, ?_⟩) (by assumption) ?_
  rotate_left
  · intro w hSw
    (try dsimp only at hSw)
    go_simp
    try with_reducible rfl
  simp only [Act.put, List.setIfInBounds_toArray, List.set_cons_zero, List.set_cons_succ]
  refine wpAnyH_ready (rs := [24]) (by kernel_rfl) (by simp) ?_
  refine AllReadyH.cons (o := { dst := none, op := Op.store 28 (Operand.tmp 71) (Operand.tmp 70), type := 0, pos := _, after := #[{ on := 23, ground := Ground.data }, { on := 22, ground := Ground.data }, { on := 22, ground := Ground.chain }, { on := 0, ground := Ground.phase }, { on := 1, ground := Ground.phase }, { on := 2, ground := Ground.phase }, { on := 3, ground := Ground.phase }, { on := 4, ground := Ground.phase }, { on := 5, ground := Ground.phase }, { on := 6, ground := Ground.phase }, { on := 7, ground := Ground.phase }, { on := 8, ground := Ground.phase }, { on := 9, ground := Ground.phase }, { on := 10, ground := Ground.phase }, { on := 11, ground := Ground.phase }, { on := 12, ground := Ground.phase }, { on := 13, ground := Ground.phase }, { on := 14, ground := Ground.phase }, { on := 15, ground := Ground.phase }, { on := 16, ground := Ground.phase }, { on := 17, ground := Ground.phase }, { on := 18, ground := Ground.phase }, { on := 19, ground := Ground.phase }, { on := 20, ground := Ground.phase }, { on := 21, ground := Ground.phase }, { on := 22, ground := Ground.phase }], guard := none }) rfl (fun K hK => ?_) AllReadyH.nil
  go_simp
  refine hK.out _ _ ⟨set_far pS nbb, set_far p6 nbb, set_far pii nbi⟩ (fun hHeld => ?_)
  clear hK K
  try simp only [Act.put, List.setIfInBounds_toArray, List.set_cons_zero, List.set_cons_succ]
  refine wpAnyH_done (by kernel_rfl) ?_ _
  refine NoPanic.normal ?_
  obtain ⟨hpt, hst⟩ := HPS.out
  have HP3 := hid hpt
  have HS3 := hid (HS1.out.trans hst)
  have m0 := hst.kept.cell k0 HF.out
  have m1 := hst.kept.cell k1 HF.out
  have m2 := hst.kept.cell k2 HF.out
  have HF3 : Hid (¬ Foot E (upd V (1 + t) (.slice (some ⟨g2, 0, none⟩) ((s1.reads t).length + 1) cap2)) bx) := fun hf => (hst.foot bx hf).elim HF.out (fun hh => by have := cell_lt k0; omega)
  clear hpt hst HPS pS p6 pw pf k0 k1 k2 HP1 HS1 HF
  generalize upd V (1 + t) (Value.slice (some ⟨g2, 0, none⟩) ((s1.reads t).length + 1) cap2) = V3 at *
  generalize w2.setCell ⟨E.brd, t, none⟩ (Value.slice (some ⟨g2, 0, none⟩) ((s1.reads t).length + 1) cap2) = w3 at *
  go_wp2_with fail
  go_region_held3 (fun w' => w'.cell? ⟨bx, 0, none⟩ = some (.string (E.nm t)) ∧ w'.cell? ⟨bx, 1, none⟩ = some (.int .u8 1) ∧ w'.cell? ⟨bx, 2, none⟩ = some (.string (E.it i)))
    (first | exact ⟨p0, p1, p2⟩ | go_keep)
    (first | (go_at_call 11; refine (exec_run E { s1 with reads := upd s1.reads t (s1.reads t ++ [E.ix i]) } V3 t ((i : Int) + 1) (E.nm t) 1 (E.it i) _ hl (by exact HP3.out.below hl (Below.refl _ _).drew) ht (Or.inl rfl) HEV.out).mono ?_; rintro r w5 ⟨rfl, V5, hp5, hs5, hv5⟩; have p0 := hs5.kept.cell (by exact m0) HF3.out; have p1 := hs5.kept.cell (by exact m1) HF3.out; have p2 := hs5.kept.cell (by exact m2) HF3.out))
  have HR := hid (show ∃ V', PM w5 E (rdSt E s1 t i) V' ∧ Step E w V w5 V' from ⟨V5, hp5, (HS3.out.trans (Step.of_below (Below.refl _ _).drew)).trans hs5⟩)
  clear hp5 hs5 hv5 p0 p1 p2
  go_wp2_with fail
  go_end0
  exact ⟨rfl, by rw [← HX1.out]; exact HR.out⟩

set_option maxRecDepth 100000 in
set_option maxHeartbeats 4000000 in
theorem sub_readp (E : Env) (s : St) (V : Nat → Value) (i t : Nat) (w : World) (hl : Lay E) (h : PM w E s V) (hg : Good s) (hi : i < E.n) (htx : E.tx i = t) (hac : E.ac i = 1) (hb : ¬ s.began t < 0) :
    Calls Yba.prog 6 #[.pointer (some ⟨E.br, 0, none⟩), .int .i64 i] w fun r w' => r = .returned (.tuple #[]) ∧ ∃ V', PM w' E (rdSt E (beginSt s t) t i) V' ∧ Step E w V w' V' := by
  have ht : t < 3 := htx ▸ hl.tx i hi
  have hti : (t : Int) < 3 := by omega
  have hii : (i : Int) < (E.n : Int) := by omega
  have hw1 : IntKind.i64.wrap ((i : Int) + 1) = (i : Int) + 1 := by have := hl.n; rw [IntKind.wrap_i64]; omega
  have c0 : w.cell? ⟨E.br, 0, none⟩ = some (.pointer (some ⟨E.bs, 0, none⟩)) := h.fix.r.cell (by omega)
  have c2 : w.cell? ⟨E.br, 2, none⟩ = some (.slice (some ⟨E.bt, 0, none⟩) E.n E.n) := h.fix.r.cell (by omega)
  have d0 := h.fix.st.sc
  have q0 := h.fix.st.o0 i hi
  have q1 := h.fix.st.o1 i hi
  have q2 := h.fix.st.o2 i hi
  have dt := h.fix.st.tx i hi
  rw [htx] at q0 dt
  rw [hac] at q1
  have z0 := cell_lt c0
  have z1 := cell_lt d0
  have z2 := cell_lt q0
  have z3 := cell_lt dt
  have n0 : E.br ≠ w.heap.size := by omega
  have n1 : E.bs ≠ w.heap.size := by omega
  have n2 : E.bo ≠ w.heap.size := by omega
  have n3 : E.bt ≠ w.heap.size := by omega
  have HB := hid hb
  have HP := hid h
  have HG := hid (good_begin (t := t) hg)
  clear h hg
  go_enter Yba.func6, Yba.ntmps6
  go_wp2_with fail
  go_region_held3 (fun w' => w'.cell? ⟨E.br, 0, none⟩ = some (.pointer (some ⟨E.bs, 0, none⟩)) ∧ w'.cell? ⟨E.bs, 0, none⟩ = some (.slice (some ⟨E.bo, 0, none⟩) E.n E.n) ∧ w'.cell? ⟨E.bo, i * 3, none⟩ = some (.string (E.nm t)) ∧ w'.cell? ⟨E.bo, i * 3 + 1, none⟩ = some (.int .u8 1) ∧ w'.cell? ⟨E.bo, i * 3 + 2, none⟩ = some (.string (E.it i)) ∧ w'.cell? ⟨E.br, 2, none⟩ = some (.slice (some ⟨E.bt, 0, none⟩) E.n E.n) ∧ w'.cell? ⟨E.bt, i, none⟩ = some (.int .i64 (t : Int)))
    (go_keep) (fail)
  have hB : Below w.heap.size w (w.alloc (Obj.cells #[Value.string (E.nm t), Value.int IntKind.u8 1, Value.string (E.it i)] 39)).drew := ((Below.refl _ _).alloc (Nat.le_refl _) _).drew
  have o0 : ((w.alloc (Obj.cells #[Value.string (E.nm t), Value.int IntKind.u8 1, Value.string (E.it i)] 39)).drew).cell? ⟨w.heap.size, 0, none⟩ = some (Value.string (E.nm t)) := by go_simp
  have o1 : ((w.alloc (Obj.cells #[Value.string (E.nm t), Value.int IntKind.u8 1, Value.string (E.it i)] 39)).drew).cell? ⟨w.heap.size, 1, none⟩ = some (Value.int .u8 1) := by go_simp
  have o2 : ((w.alloc (Obj.cells #[Value.string (E.nm t), Value.int IntKind.u8 1, Value.string (E.it i)] 39)).drew).cell? ⟨w.heap.size, 2, none⟩ = some (Value.string (E.it i)) := by go_simp
  have HP0 := hid (HP.out.below hl hB)
  have HS0 := hid (Step.of_below (E := E) (V := V) hB)
  have HF : Hid (¬ Foot E V w.heap.size) := HP.out.fresh hl (Nat.le_refl _)
  clear hB c0 c2 d0 q0 q1 q2 dt z0 z1 z2 z3 n0 n1 n2 n3 HP
  generalize (w.alloc (Obj.cells #[Value.string (E.nm t), Value.int IntKind.u8 1, Value.string (E.it i)] 39)).drew = w0 at *
  generalize w.heap.size = bx at *
  have c16 : w0.cell? ⟨E.br, 16, none⟩ = some (.slice (some ⟨E.bb, 0, none⟩) 3 3) := HP0.out.fix.r.cell (by omega)
  have db := HP0.out.fix.bg.cell ht
  have HP1 : Hid (PM w0 E (beginSt s t) V) := by
    unfold beginSt
    rw [if_neg (by have := HB.out; omega)]
    exact HP0.out
  have HS1 := HS0
  have k0 := o0
  have k1 := o1
  have k2 := o2
  clear HP0 HS0 o0 o1 o2
  generalize w0 = w1 at *
  obtain ⟨s1, HX1⟩ : ∃ s1, Hid (s1 = beginSt s t) := ⟨_, rfl⟩
  replace HP1 : Hid (PM w1 E s1 V) := by rw [HX1.out]; exact HP1.out
  replace HG : Hid (Good s1) := by rw [HX1.out]; exact HG.out
  obtain ⟨i0, hi0, hz0, hz1, hz2⟩ := info_parts Yba.info3
  have hlen := HG.out.rd t ht
  have HEV : Hid (s1.ev.length ≤ 1000000) := by have := HG.out.ev; show _ ≤ _; omega
  have cS : w1.cell? ⟨E.br, 17, none⟩ = some (.slice (some ⟨E.brd, 0, none⟩) 3 3) := HP1.out.fix.r.cell (by omega)
  obtain ⟨aw, capw, hvw, hroww⟩ := row_shape (HP1.out.own_rd ht)
  clear hroww
  have dS : w1.cell? ⟨E.brd, t, none⟩ = some (.slice aw (s1.reads t).length capw) := by rw [← hvw]; exact HP1.out.fix.rd.cell ht
  have HVW := hid hvw
  have nbb : E.br ≠ E.brd := by obtain ⟨l1, l2, l3, l4, l5, l6, l7, l8, l9, l10, l11, l12, l13, l14, l15, l16, _⟩ := hl; omega
  have nbi : E.bit ≠ E.brd := by obtain ⟨l1, l2, l3, l4, l5, l6, l7, l8, l9, l10, l11, l12, l13, l14, l15, l16, _⟩ := hl; omega
  clear hvw
  obtain ⟨hio, hix⟩ := hl.io i hi (Or.inl hac)
  have c6 : w1.cell? ⟨E.br, 6, none⟩ = some (.slice (some ⟨E.bit, 0, none⟩) E.n E.n) := HP1.out.fix.r.cell (by omega)
  have di : w1.cell? ⟨E.bit, i, none⟩ = some (.int .i64 (E.ix i : Int)) := by rw [← hio]; exact HP1.out.fix.st.io i hi
  replace hio := hid hio
  go_wp2_with fail
  have nsz : E.brd ≠ w1.heap.size := by have := cell_lt dS; omega
  have dS2 : (w1.alloc (Obj.cells #[Value.int IntKind.i64 (E.ix i : Int)] 3)).cell? ⟨E.brd, t, none⟩ = some (.slice aw (s1.reads t).length capw) := ((Kept.refl (fun _ => False) w1).alloc _).cell dS (fun h => h)
  have nsr : E.br ≠ w1.heap.size := by have := cell_lt cS; omega
  have nst : E.bit ≠ w1.heap.size := by have := cell_lt di; omega
  refine wp_region_noPanic ?_
  refine wp_region_held_drew (S := fun w' => w'.cell? ⟨E.br, 17, none⟩ = some (.slice (some ⟨E.brd, 0, none⟩) 3 3) ∧ w'.cell? ⟨E.br, 6, none⟩ = some (.slice (some ⟨E.bit, 0, none⟩) E.n E.n) ∧ w'.cell? ⟨E.bit, i, none⟩ = some (.int .i64 (E.ix i : Int))) (by kernel_rfl) (by go_keep) (fun hHeld => ?_)
  refine wpAnyH_take (i := 0) (oi := { dst := some 48, op := Op.move (Operand.tmp 0), type := 41, pos := _, after := #[], guard := none }) (v := ?_) rfl (by kernel_rfl) (by kernel_rfl) (by kernel_rfl) (fun _ _ _ h => h) (Or.inl ⟨by rfl, ?_⟩) (by assumption) ?_
  rotate_left
  · intro w hSw
    (try dsimp only at hSw)
    go_simp
    try with_reducible rfl
  simp only [Act.put, List.setIfInBounds_toArray, List.set_cons_zero, List.set_cons_succ]
  refine wpAnyH_take (i := 1) (oi := { dst := some 49, op := Op.nilCheck (Operand.tmp 48), type := 0, pos := _, after := #[{ on := 0, ground := Ground.data }], guard := none }) (v := ?_) rfl (by kernel_rfl) (by kernel_rfl) (by kernel_rfl) (fun _ _ _ h => h) (Or.inl ⟨by rfl, ?_⟩) (by assumption) ?_
  rotate_left
  · intro w hSw
    (try dsimp only at hSw)
    go_simp
    try with_reducible rfl
  simp only [Act.put, List.setIfInBounds_toArray, List.set_cons_zero, List.set_cons_succ]
  refine wpAnyH_take (i := 2) (oi := { dst := some 50, op := Op.fieldAddr 56 (Operand.tmp 49) 3, type := 0, pos := _, after := #[{ on := 1, ground := Ground.data }], guard := none }) (v := ?_) rfl (by kernel_rfl) (by kernel_rfl) (by kernel_rfl) (fun _ _ _ h => h) (Or.inl ⟨by rfl, ?_⟩) (by assumption) ?_
  rotate_left
  · intro w hSw
    (try dsimp only at hSw)
    go_simp
    try with_reducible rfl
  simp only [Act.put, List.setIfInBounds_toArray, List.set_cons_zero, List.set_cons_succ]
  refine wpAnyH_take (i := 3) (oi := { dst := some 51, op := Op.load 50 (Operand.tmp 50), type := 50, pos := _, after := #[{ on := 2, ground := Ground.data }], guard := none }) (v := ?_) rfl (by kernel_rfl) (by kernel_rfl) (by kernel_rfl) (fun _ _ _ h => h) (Or.inl ⟨by rfl, ?_⟩) (by assumption) ?_
  rotate_left
  · intro w hSw
    (try dsimp only at hSw)
    go_simp
    try with_reducible rfl
  simp only [Act.put, List.setIfInBounds_toArray, List.set_cons_zero, List.set_cons_succ]
  refine wpAnyH_take (i := 4) (oi := { dst := some 52, op := Op.move (Operand.tmp 5), type := 3, pos := _, after := #[], guard := none }) (v := ?_) rfl (by kernel_rfl) (by kernel_rfl) (by kernel_rfl) (fun _ _ _ h => h) (Or.inl ⟨by rfl, ?_⟩) (by assumption) ?_
  rotate_left
  · intro w hSw
    (try dsimp only at hSw)
    go_simp
    try with_reducible rfl
  simp only [Act.put, List.setIfInBounds_toArray, List.set_cons_zero, List.set_cons_succ]
  refine wpAnyH_take (i := 5) (oi := { dst := some 53, op := Op.move (Operand.tmp 0), type := 41, pos := _, after := #[], guard := none }) (v := ?_) rfl (by kernel_rfl) (by kernel_rfl) (by kernel_rfl) (fun _ _ _ h => h) (Or.inl ⟨by rfl, ?_⟩) (by assumption) ?_
  rotate_left
  · intro w hSw
    (try dsimp only at hSw)
    go_simp
    try with_reducible rfl
  simp only [Act.put, List.setIfInBounds_toArray, List.set_cons_zero, List.set_cons_succ]
  refine wpAnyH_take (i := 6) (oi := { dst := some 54, op := Op.nilCheck (Operand.tmp 53), type := 0, pos := _, after := #[{ on := 5, ground := Ground.data }], guard := none }) (v := ?_) rfl (by kernel_rfl) (by kernel_rfl) (by kernel_rfl) (fun _ _ _ h => h) (Or.inl ⟨by rfl, ?_⟩) (by assumption) ?_
  rotate_left
  · intro w hSw
    (try dsimp only at hSw)
    go_simp
    try with_reducible rfl
  simp only [Act.put, List.setIfInBounds_toArray, List.set_cons_zero, List.set_cons_succ]
  refine wpAnyH_take (i := 7) (oi := { dst := some 55, op := Op.fieldAddr 56 (Operand.tmp 54) 3, type := 0, pos := _, after := #[{ on := 6, ground := Ground.data }], guard := none }) (v := ?_) rfl (by kernel_rfl) (by kernel_rfl) (by kernel_rfl) (fun _ _ _ h => h) (Or.inl ⟨by rfl, ?_⟩) (by assumption) ?_
  rotate_left
  · intro w hSw
    (try dsimp only at hSw)
    go_simp
    try with_reducible rfl
  simp only [Act.put, List.setIfInBounds_toArray, List.set_cons_zero, List.set_cons_succ]
  refine wpAnyH_take (i := 8) (oi := { dst := some 56, op := Op.load 50 (Operand.tmp 55), type := 50, pos := _, after := #[{ on := 7, ground := Ground.data }], guard := none }) (v := ?_) rfl (by kernel_rfl) (by kernel_rfl) (by kernel_rfl) (fun _ _ _ h => h) (Or.inl ⟨by rfl, ?_⟩) (by assumption) ?_
  rotate_left
  · intro w hSw
    (try dsimp only at hSw)
    go_simp
    try with_reducible rfl
  simp only [Act.put, List.setIfInBounds_toArray, List.set_cons_zero, List.set_cons_succ]
  refine wpAnyH_take (i := 9) (oi := { dst := some 57, op := Op.move (Operand.tmp 5), type := 3, pos := _, after := #[], guard := none }) (v := ?_) rfl (by kernel_rfl) (by kernel_rfl) (by kernel_rfl) (fun _ _ _ h => h) (Or.inl ⟨by rfl, ?_⟩) (by assumption) ?_
  rotate_left
  · intro w hSw
    (try dsimp only at hSw)
    go_simp
    try with_reducible rfl
  simp only [Act.put, List.setIfInBounds_toArray, List.set_cons_zero, List.set_cons_succ]
  refine wpAnyH_take (i := 10) (oi := { dst := some 58, op := Op.indexAddr 50 (Operand.tmp 56) (Operand.tmp 57), type := 0, pos := _, after := #[{ on := 8, ground := Ground.data }, { on := 9, ground := Ground.data }], guard := none }) (v := ?_) rfl (by kernel_rfl) (by kernel_rfl) (by kernel_rfl) (fun _ _ _ h => h) (Or.inl ⟨by rfl, ?_⟩) (by assumption) ?_
  rotate_left
  · intro w hSw
    (try dsimp only at hSw)
    go_simp
    try with_reducible rfl
  simp only [Act.put, List.setIfInBounds_toArray, List.set_cons_zero, List.set_cons_succ]
  refine wpAnyH_take (i := 12) (oi := { dst := some 60, op := Op.move (Operand.tmp 0), type := 41, pos := _, after := #[], guard := none }) (v := ?_) rfl (by kernel_rfl) (by kernel_rfl) (by kernel_rfl) (fun _ _ _ h => h) (Or.inl ⟨by rfl, ?_⟩) (by assumption) ?_
  rotate_left
  · intro w hSw
    (try dsimp only at hSw)
    go_simp
    try with_reducible rfl
  simp only [Act.put, List.setIfInBounds_toArray, List.set_cons_zero, List.set_cons_succ]
  refine wpAnyH_take (i := 13) (oi := { dst := some 61, op := Op.nilCheck (Operand.tmp 60), type := 0, pos := _, after := #[{ on := 12, ground := Ground.data }], guard := none }) (v := ?_) rfl (by kernel_rfl) (by kernel_rfl) (by kernel_rfl) (fun _ _ _ h => h) (Or.inl ⟨by rfl, ?_⟩) (by assumption) ?_
  rotate_left
  · intro w hSw
    (try dsimp only at hSw)
    go_simp
    try with_reducible rfl
  simp only [Act.put, List.setIfInBounds_toArray, List.set_cons_zero, List.set_cons_succ]
  refine wpAnyH_take (i := 14) (oi := { dst := some 62, op := Op.fieldAddr 56 (Operand.tmp 61) 0, type := 0, pos := _, after := #[{ on := 13, ground := Ground.data }], guard := none }) (v := ?_) rfl (by kernel_rfl) (by kernel_rfl) (by kernel_rfl) (fun _ _ _ h => h) (Or.inl ⟨by rfl, ?_⟩) (by assumption) ?_
  rotate_left
  · intro w hSw
    (try dsimp only at hSw)
    go_simp
    try with_reducible rfl
  simp only [Act.put, List.setIfInBounds_toArray, List.set_cons_zero, List.set_cons_succ]
  refine wpAnyH_take (i := 15) (oi := { dst := some 63, op := Op.fieldAddr 53 (Operand.tmp 62) 2, type := 0, pos := _, after := #[{ on := 14, ground := Ground.data }], guard := none }) (v := ?_) rfl (by kernel_rfl) (by kernel_rfl) (by kernel_rfl) (fun _ _ _ h => h) (Or.inl ⟨by rfl, ?_⟩) (by assumption) ?_
  rotate_left
  · intro w hSw
    (try dsimp only at hSw)
    go_simp
    try with_reducible rfl
  simp only [Act.put, List.setIfInBounds_toArray, List.set_cons_zero, List.set_cons_succ]
  refine wpAnyH_take (i := 16) (oi := { dst := some 64, op := Op.fieldAddr 45 (Operand.tmp 63) 1, type := 0, pos := _, after := #[{ on := 15, ground := Ground.data }], guard := none }) (v := ?_) rfl (by kernel_rfl) (by kernel_rfl) (by kernel_rfl) (fun _ _ _ h => h) (Or.inl ⟨by rfl, ?_⟩) (by assumption) ?_
  rotate_left
  · intro w hSw
    (try dsimp only at hSw)
    go_simp
    try with_reducible rfl
  simp only [Act.put, List.setIfInBounds_toArray, List.set_cons_zero, List.set_cons_succ]
  refine wpAnyH_take (i := 17) (oi := { dst := some 65, op := Op.load 28 (Operand.tmp 64), type := 28, pos := _, after := #[{ on := 16, ground := Ground.data }], guard := none }) (v := ?_) rfl (by kernel_rfl) (by kernel_rfl) (by kernel_rfl) (fun _ _ _ h => h) (Or.inl ⟨by rfl, ?_⟩) (by assumption) ?_
  rotate_left
  · intro w hSw
    (try dsimp only at hSw)
    go_simp
    try with_reducible rfl
  simp only [Act.put, List.setIfInBounds_toArray, List.set_cons_zero, List.set_cons_succ]
  refine wpAnyH_take (i := 18) (oi := { dst := some 66, op := Op.move (Operand.tmp 1), type := 3, pos := _, after := #[], guard := none }) (v := ?_) rfl (by kernel_rfl) (by kernel_rfl) (by kernel_rfl) (fun _ _ _ h => h) (Or.inl ⟨by rfl, ?_⟩) (by assumption) ?_
  rotate_left
  · intro w hSw
    (try dsimp only at hSw)
    go_simp
    try with_reducible rfl
  simp only [Act.put, List.setIfInBounds_toArray, List.set_cons_zero, List.set_cons_succ]
  refine wpAnyH_take (i := 19) (oi := { dst := some 67, op := Op.indexAddr 28 (Operand.tmp 65) (Operand.tmp 66), type := 0, pos := _, after := #[{ on := 17, ground := Ground.data }, { on := 18, ground := Ground.data }], guard := none }) (v := ?_) rfl (by kernel_rfl) (by kernel_rfl) (by kernel_rfl) (fun _ _ _ h => h) (Or.inl ⟨by rfl, ?_⟩) (by assumption) ?_
  rotate_left
  · intro w hSw
    (try dsimp only at hSw)
    go_simp
    try with_reducible rfl
  simp only [Act.put, List.setIfInBounds_toArray, List.set_cons_zero, List.set_cons_succ]
  refine wpAnyH_take (i := 20) (oi := { dst := some 68, op := Op.load 3 (Operand.tmp 67), type := 3, pos := _, after := #[{ on := 19, ground := Ground.data }], guard := none }) (v := ?_) rfl (by kernel_rfl) (by kernel_rfl) (by kernel_rfl) (fun _ _ _ h => h) (Or.inl ⟨by rfl, ?_⟩) (by assumption) ?_
  rotate_left
  · intro w hSw
    (try dsimp only at hSw)
    go_simp
    try with_reducible rfl
  simp only [Act.put, List.setIfInBounds_toArray, List.set_cons_zero, List.set_cons_succ]
  refine wpAnyH_ready (rs := [11, 21]) (by kernel_rfl) (by simp) ?_
  refine AllReadyH.cons (o := { dst := some 59, op := Op.load 28 (Operand.tmp 58), type := 28, pos := _, after := #[{ on := 10, ground := Ground.data }], guard := none }) rfl (fun K hK => ?_) ?_
  · go_simp
    refine hK.out _ _ (by first | exact hHeld | go_keep) (fun hHeld => ?_)
    clear hK K
    try simp only [Act.put, List.setIfInBounds_toArray, List.set_cons_zero, List.set_cons_succ]
    refine wpAnyH_ready (rs := [21]) (by kernel_rfl) (by simp) ?_
    refine AllReadyH.cons (o := { dst := some 69, op := Op.buildSlice 28 1 #[(0, Operand.tmp 68)], type := 28, pos := _, after := #[{ on := 20, ground := Ground.data }], guard := none }) rfl (fun K hK => ?_) AllReadyH.nil
    go_simp
    refine hK.out _ _ (by first | exact hHeld | go_keep) (fun hHeld => ?_)
    clear hK K
    try simp only [Act.put, List.setIfInBounds_toArray, List.set_cons_zero, List.set_cons_succ]
    refine wpAnyH_ready (rs := [22]) (by kernel_rfl) (by simp) ?_
    refine AllReadyH.cons (o := { dst := some 70, op := Op.call { callee := Callee.builtin Builtin.append, args := #[Operand.tmp 59, Operand.tmp 69], argTypes := #[28, 28] }, type := 28, pos := _, after := #[{ on := 11, ground := Ground.data }, { on := 21, ground := Ground.data }], guard := none }) rfl (fun K hK => ?_) AllReadyH.nil
    (refine step_append_lies _ rfl _ _ 28 rfl E.base 3 i0 (.int .i64 0) 1 8 Yba.underlying28 hi0 hz0 hz1 hz2 rfl (by decide) _ _ (ints (s1.reads t)) rfl (by rw [← HVW.out]; exact (HP1.out.below hl (by repeat (first | exact Below.refl _ _ | exact below_drewN (Below.refl _ _) _ | apply Below.drew | refine Below.alloc ?_ (by simp) _))).own_rd ht) ⟨w1.heap.size, 0, none⟩ 1 1 [.int .i64 (E.ix i : Int)] rfl rfl (news1 _ #[.int .i64 (E.ix i : Int)] 3 _ (by simp)) (ints_oneCell .i64 [(E.ix i : Int)]) (by decide) (by unfold maxLen; omega) (by omega) (by have := HP1.out.fix.size; simp; omega) (w1.heap.size + 1) (by simp) ?_; intro g2 cap2 w2 hown2 hg2 hat2 hlt3; obtain ⟨HPS, pS, p6, pia, pw, pf⟩ := after_rd hl HP1.out (by repeat (first | exact Below.refl _ _ | exact below_drewN (Below.refl _ _) _ | apply Below.drew | refine Below.alloc ?_ (by simp) _)) HVW.out ht hown2 hg2 hat2 (by simp); replace HPS := hid HPS; have pii := pia i hi; rw [hio.out] at pii; clear pia hown2 hg2 hat2 hlt3)
    refine hK.out _ _ ⟨pS, p6, pii⟩ (fun hHeld => ?_)
    clear hK K
    try simp only [Act.put, List.setIfInBounds_toArray, List.set_cons_zero, List.set_cons_succ]
    refine wpAnyH_take (i := 23) (oi := { dst := some 71, op := Op.indexAddr 50 (Operand.tmp 51) (Operand.tmp 52), type := 0, pos := _, after := #[{ on := 3, ground := Ground.data }, { on := 4, ground := Ground.data }, { on := 0, ground := Ground.phase }, { on := 1, ground := Ground.phase }, { on := 2, ground := Ground.phase }, { on := 3, ground := Ground.phase }, { on := 4, ground := Ground.phase }, { on := 5, ground := Ground.phase }, { on := 6, ground := Ground.phase }, { on := 7, ground := Ground.phase }, { on := 8, ground := Ground.phase }, { on := 9, ground := Ground.phase }, { on := 10, ground := Ground.phase }, { on := 11, ground := Ground.phase }, { on := 12, ground := Ground.phase }, { on := 13, ground := Ground.phase }, { on := 14, ground := Ground.phase }, { on := 15, ground := Ground.phase }, { on := 16, ground := Ground.phase }, { on := 17, ground := Ground.phase }, { on := 18, ground := Ground.phase }, { on := 19, ground := Ground.phase }, { on := 20, ground := Ground.phase }, { on := 21, ground := Ground.phase }, { on := 22, ground := Ground.phase }], guard := none }) (v := ?_) rfl (by kernel_rfl) (by kernel_rfl) (by kernel_rfl) (fun _ _ _ h => h) (Or.inl ⟨by rfl, ?_⟩) (by assumption) ?_
    rotate_left
    · intro w hSw
      (try dsimp only at hSw)
      go_simp
      try with_reducible rfl
    simp only [Act.put, List.setIfInBounds_toArray, List.set_cons_zero, List.set_cons_succ]
    refine wpAnyH_ready (rs := [24]) (by kernel_rfl) (by simp) ?_
    refine AllReadyH.cons (o := { dst := none, op := Op.store 28 (Operand.tmp 71) (Operand.tmp 70), type := 0, pos := _, after := #[{ on := 23, ground := Ground.data }, { on := 22, ground := Ground.data }, { on := 22, ground := Ground.chain }, { on := 0, ground := Ground.phase }, { on := 1, ground := Ground.phase }, { on := 2, ground := Ground.phase }, { on := 3, ground := Ground.phase }, { on := 4, ground := Ground.phase }, { on := 5, ground := Ground.phase }, { on := 6, ground := Ground.phase }, { on := 7, ground := Ground.phase }, { on := 8, ground := Ground.phase }, { on := 9, ground := Ground.phase }, { on := 10, ground := Ground.phase }, { on := 11, ground := Ground.phase }, { on := 12, ground := Ground.phase }, { on := 13, ground := Ground.phase }, { on := 14, ground := Ground.phase }, { on := 15, ground := Ground.phase }, { on := 16, ground := Ground.phase }, { on := 17, ground := Ground.phase }, { on := 18, ground := Ground.phase }, { on := 19, ground := Ground.phase }, { on := 20, ground := Ground.phase }, { on := 21, ground := Ground.phase }, { on := 22, ground := Ground.phase }], guard := none }) rfl (fun K hK => ?_) AllReadyH.nil
    go_simp
    refine hK.out _ _ ⟨set_far pS nbb, set_far p6 nbb, set_far pii nbi⟩ (fun hHeld => ?_)
    clear hK K
    try simp only [Act.put, List.setIfInBounds_toArray, List.set_cons_zero, List.set_cons_succ]
    refine wpAnyH_done (by kernel_rfl) ?_ _
    refine NoPanic.normal ?_
    obtain ⟨hpt, hst⟩ := HPS.out
    have HP3 := hid hpt
    have HS3 := hid (HS1.out.trans hst)
    have m0 := hst.kept.cell k0 HF.out
    have m1 := hst.kept.cell k1 HF.out
    have m2 := hst.kept.cell k2 HF.out
    have HF3 : Hid (¬ Foot E (upd V (1 + t) (.slice (some ⟨g2, 0, none⟩) ((s1.reads t).length + 1) cap2)) bx) := fun hf => (hst.foot bx hf).elim HF.out (fun hh => by have := cell_lt k0; omega)
    clear hpt hst HPS pS p6 pw pf k0 k1 k2 HP1 HS1 HF
    generalize upd V (1 + t) (Value.slice (some ⟨g2, 0, none⟩) ((s1.reads t).length + 1) cap2) = V3 at *
    generalize w2.setCell ⟨E.brd, t, none⟩ (Value.slice (some ⟨g2, 0, none⟩) ((s1.reads t).length + 1) cap2) = w3 at *
    go_wp2_with fail
    go_region_held3 (fun w' => w'.cell? ⟨bx, 0, none⟩ = some (.string (E.nm t)) ∧ w'.cell? ⟨bx, 1, none⟩ = some (.int .u8 1) ∧ w'.cell? ⟨bx, 2, none⟩ = some (.string (E.it i)))
      (first | exact ⟨p0, p1, p2⟩ | go_keep)
      (first | (go_at_call 11; refine (exec_run E { s1 with reads := upd s1.reads t (s1.reads t ++ [E.ix i]) } V3 t ((i : Int) + 1) (E.nm t) 1 (E.it i) _ hl (by exact HP3.out.below hl (Below.refl _ _).drew) ht (Or.inl rfl) HEV.out).mono ?_; rintro r w5 ⟨rfl, V5, hp5, hs5, hv5⟩; have p0 := hs5.kept.cell (by exact m0) HF3.out; have p1 := hs5.kept.cell (by exact m1) HF3.out; have p2 := hs5.kept.cell (by exact m2) HF3.out))
    have HR := hid (show ∃ V', PM w5 E (rdSt E s1 t i) V' ∧ Step E w V w5 V' from ⟨V5, hp5, (HS3.out.trans (Step.of_below (Below.refl _ _).drew)).trans hs5⟩)
    clear hp5 hs5 hv5 p0 p1 p2
    go_wp2_with fail
    go_end0
    exact ⟨rfl, by rw [← HX1.out]; exact HR.out⟩
  refine AllReadyH.cons (o := { dst := some 69, op := Op.buildSlice 28 1 #[(0, Operand.tmp 68)], type := 28, pos := _, after := #[{ on := 20, ground := Ground.data }], guard := none }) rfl (fun K hK => ?_) AllReadyH.nil
  go_simp
  refine hK.out _ _ (by first | exact hHeld | go_keep) (fun hHeld => ?_)
  clear hK K
  try simp only [Act.put, List.setIfInBounds_toArray, List.set_cons_zero, List.set_cons_succ]
  refine wpAnyH_ready (rs := [11]) (by kernel_rfl) (by simp) ?_
  refine AllReadyH.cons (o := { dst := some 59, op := Op.load 28 (Operand.tmp 58), type := 28, pos := _, after := #[{ on := 10, ground := Ground.data }], guard := none }) rfl (fun K hK => ?_) AllReadyH.nil
  go_simp
  refine hK.out _ _ (by first | exact hHeld | go_keep) (fun hHeld => ?_)
  clear hK K
  try simp only [Act.put, List.setIfInBounds_toArray, List.set_cons_zero, List.set_cons_succ]
  refine wpAnyH_ready (rs := [22]) (by kernel_rfl) (by simp) ?_
  refine AllReadyH.cons (o := { dst := some 70, op := Op.call { callee := Callee.builtin Builtin.append, args := #[Operand.tmp 59, Operand.tmp 69], argTypes := #[28, 28] }, type := 28, pos := _, after := #[{ on := 11, ground := Ground.data }, { on := 21, ground := Ground.data }], guard := none }) rfl (fun K hK => ?_) AllReadyH.nil
  (refine step_append_lies _ rfl _ _ 28 rfl E.base 3 i0 (.int .i64 0) 1 8 Yba.underlying28 hi0 hz0 hz1 hz2 rfl (by decide) _ _ (ints (s1.reads t)) rfl (by rw [← HVW.out]; exact (HP1.out.below hl (by repeat (first | exact Below.refl _ _ | exact below_drewN (Below.refl _ _) _ | apply Below.drew | refine Below.alloc ?_ (by simp) _))).own_rd ht) ⟨w1.heap.size, 0, none⟩ 1 1 [.int .i64 (E.ix i : Int)] rfl rfl (news1 _ #[.int .i64 (E.ix i : Int)] 3 _ (by simp)) (ints_oneCell .i64 [(E.ix i : Int)]) (by decide) (by unfold maxLen; omega) (by omega) (by have := HP1.out.fix.size; simp; omega) (w1.heap.size + 1) (by simp) ?_; intro g2 cap2 w2 hown2 hg2 hat2 hlt3; obtain ⟨HPS, pS, p6, pia, pw, pf⟩ := after_rd hl HP1.out (by repeat (first | exact Below.refl _ _ | exact below_drewN (Below.refl _ _) _ | apply Below.drew | refine Below.alloc ?_ (by simp) _)) HVW.out ht hown2 hg2 hat2 (by simp); replace HPS := hid HPS; have pii := pia i hi; rw [hio.out] at pii; clear pia hown2 hg2 hat2 hlt3)
  refine hK.out _ _ ⟨pS, p6, pii⟩ (fun hHeld => ?_)
  clear hK K
  try simp only [Act.put, List.setIfInBounds_toArray, List.set_cons_zero, List.set_cons_succ]
  refine wpAnyH_take (i := 23) (oi := { dst := some 71, op := Op.indexAddr 50 (Operand.tmp 51) (Operand.tmp 52), type := 0, pos := _, after := #[{ on := 3, ground := Ground.data }, { on := 4, ground := Ground.data }, { on := 0, ground := Ground.phase }, { on := 1, ground := Ground.phase }, { on := 2, ground := Ground.phase }, { on := 3, ground := Ground.phase }, { on := 4, ground := Ground.phase }, { on := 5, ground := Ground.phase }, { on := 6, ground := Ground.phase }, { on := 7, ground := Ground.phase }, { on := 8, ground := Ground.phase }, { on := 9, ground := Ground.phase }, { on := 10, ground := Ground.phase }, { on := 11, ground := Ground.phase }, { on := 12, ground := Ground.phase }, { on := 13, ground := Ground.phase }, { on := 14, ground := Ground.phase }, { on := 15, ground := Ground.phase }, { on := 16, ground := Ground.phase }, { on := 17, ground := Ground.phase }, { on := 18, ground := Ground.phase }, { on := 19, ground := Ground.phase }, { on := 20, ground := Ground.phase }, { on := 21, ground := Ground.phase }, { on := 22, ground := Ground.phase }], guard := none }) (v := ?_) rfl (by kernel_rfl) (by kernel_rfl) (by kernel_rfl) (fun _ _ _ h => h) (Or.inl ⟨by rfl, ?_⟩) (by assumption) ?_
  rotate_left
  · intro w hSw
    (try dsimp only at hSw)
    go_simp
    try with_reducible rfl
  simp only [Act.put, List.setIfInBounds_toArray, List.set_cons_zero, List.set_cons_succ]
  refine wpAnyH_ready (rs := [24]) (by kernel_rfl) (by simp) ?_
  refine AllReadyH.cons (o := { dst := none, op := Op.store 28 (Operand.tmp 71) (Operand.tmp 70), type := 0, pos := _, after := #[{ on := 23, ground := Ground.data }, { on := 22, ground := Ground.data }, { on := 22, ground := Ground.chain }, { on := 0, ground := Ground.phase }, { on := 1, ground := Ground.phase }, { on := 2, ground := Ground.phase }, { on := 3, ground := Ground.phase }, { on := 4, ground := Ground.phase }, { on := 5, ground := Ground.phase }, { on := 6, ground := Ground.phase }, { on := 7, ground := Ground.phase }, { on := 8, ground := Ground.phase }, { on := 9, ground := Ground.phase }, { on := 10, ground := Ground.phase }, { on := 11, ground := Ground.phase }, { on := 12, ground := Ground.phase }, { on := 13, ground := Ground.phase }, { on := 14, ground := Ground.phase }, { on := 15, ground := Ground.phase }, { on := 16, ground := Ground.phase }, { on := 17, ground := Ground.phase }, { on := 18, ground := Ground.phase }, { on := 19, ground := Ground.phase }, { on := 20, ground := Ground.phase }, { on := 21, ground := Ground.phase }, { on := 22, ground := Ground.phase }], guard := none }) rfl (fun K hK => ?_) AllReadyH.nil
  go_simp
  refine hK.out _ _ ⟨set_far pS nbb, set_far p6 nbb, set_far pii nbi⟩ (fun hHeld => ?_)
  clear hK K
  try simp only [Act.put, List.setIfInBounds_toArray, List.set_cons_zero, List.set_cons_succ]
  refine wpAnyH_done (by kernel_rfl) ?_ _
  refine NoPanic.normal ?_
  obtain ⟨hpt, hst⟩ := HPS.out
  have HP3 := hid hpt
  have HS3 := hid (HS1.out.trans hst)
  have m0 := hst.kept.cell k0 HF.out
  have m1 := hst.kept.cell k1 HF.out
  have m2 := hst.kept.cell k2 HF.out
  have HF3 : Hid (¬ Foot E (upd V (1 + t) (.slice (some ⟨g2, 0, none⟩) ((s1.reads t).length + 1) cap2)) bx) := fun hf => (hst.foot bx hf).elim HF.out (fun hh => by have := cell_lt k0; omega)
  clear hpt hst HPS pS p6 pw pf k0 k1 k2 HP1 HS1 HF
  generalize upd V (1 + t) (Value.slice (some ⟨g2, 0, none⟩) ((s1.reads t).length + 1) cap2) = V3 at *
  generalize w2.setCell ⟨E.brd, t, none⟩ (Value.slice (some ⟨g2, 0, none⟩) ((s1.reads t).length + 1) cap2) = w3 at *
  go_wp2_with fail
  go_region_held3 (fun w' => w'.cell? ⟨bx, 0, none⟩ = some (.string (E.nm t)) ∧ w'.cell? ⟨bx, 1, none⟩ = some (.int .u8 1) ∧ w'.cell? ⟨bx, 2, none⟩ = some (.string (E.it i)))
    (first | exact ⟨p0, p1, p2⟩ | go_keep)
    (first | (go_at_call 11; refine (exec_run E { s1 with reads := upd s1.reads t (s1.reads t ++ [E.ix i]) } V3 t ((i : Int) + 1) (E.nm t) 1 (E.it i) _ hl (by exact HP3.out.below hl (Below.refl _ _).drew) ht (Or.inl rfl) HEV.out).mono ?_; rintro r w5 ⟨rfl, V5, hp5, hs5, hv5⟩; have p0 := hs5.kept.cell (by exact m0) HF3.out; have p1 := hs5.kept.cell (by exact m1) HF3.out; have p2 := hs5.kept.cell (by exact m2) HF3.out))
  have HR := hid (show ∃ V', PM w5 E (rdSt E s1 t i) V' ∧ Step E w V w5 V' from ⟨V5, hp5, (HS3.out.trans (Step.of_below (Below.refl _ _).drew)).trans hs5⟩)
  clear hp5 hs5 hv5 p0 p1 p2
  go_wp2_with fail
  go_end0
  exact ⟨rfl, by rw [← HX1.out]; exact HR.out⟩

end Go.Proofs.Ybulkiec
