/-
  LawS0444BRun: what holds between the regions of the second loop's round.
-/
import Derived.Test.YbulkiecBoth
namespace Go.Proofs.Ybulkiec
open Go.ChangeShapes Go.WideShapes Go.ChangeAt Go.RowKit
set_option linter.unusedVariables false

/-- Both memories, the two headers that lie in slots, a box, and the law's caller's memory untouched. -/
structure Lq (w wr : World) (E : Env) (F : MEnv) (s m : St) (u16 u24 : Value) (bx : Nat) (v0 v1 v2 : Value) : Prop where
  ex : ∃ V U, Both wr E F s m V U ∧ U 0 = u16 ∧ U 10 = u24 ∧ Box wr F U bx v0 v1 v2
  bel : Below E.bn w wr

section
variable {w wr w1 : World} {E : Env} {F : MEnv} {s m : St} {u16 u24 : Value} {bx : Nat} {v0 v1 v2 : Value}

theorem mfoot_ge {U : Nat → Value} (hl : Lay E) (hm : MLay E F) (h : MM wr F m U) {b : Nat} (hb : b < E.bn) : ¬ MFoot F U b := fun hf => by
  have := (h.foot_lt hm hf).2
  obtain ⟨l1, l2, l3, l4, l5, l6, l7, l8, l9, l10, l11, l12, l13, l14, l15, l16, _⟩ := hl
  omega
theorem foot_ge {V : Nat → Value} (hl : Lay E) (h : PM wr E s V) {b : Nat} (hb : b < E.bn) : ¬ Foot E V b := fun hf => by
  obtain ⟨l1, l2, l3, l4, l5, l6, l7, l8, l9, l10, l11, l12, l13, l14, l15, l16, _⟩ := hl
  rcases hf with hf | ⟨j, hj, hf⟩
  · unfold fixed at hf
    omega
  · have := ((h.bank.own j hj).lt _ hf).1
    omega
theorem bn_le {V : Nat → Value} (hl : Lay E) (h : PM wr E s V) : E.bn ≤ wr.heap.size := by
  have := h.fix.size
  obtain ⟨l1, l2, l3, l4, l5, l6, l7, l8, l9, l10, l11, l12, l13, l14, l15, l16, _⟩ := hl
  omega

theorem Lq.mstep (hl : Lay E) (hm : MLay E F) {V U U1 : Nat → Value} {m1 : St} {a b : Value} (hB : Both wr E F s m V U) (hX : Box wr F U bx v0 v1 v2) (hb : Below E.bn w wr) (p : MM w1 F m1 U1) (q : MStep F wr U w1 U1) (e0 : U1 0 = a) (e10 : U1 10 = b) :
    Lq w w1 E F s m1 a b bx v0 v1 v2 :=
  ⟨⟨V, U1, hB.mod hl hm p q, e0, e10, hX.step q⟩, hb.trans (q.kept.below (bn_le hl hB.pm) (fun c hc => mfoot_ge hl hm hB.mm hc))⟩

theorem Lq.below (hl : Lay E) (h : Lq w wr E F s m u16 u24 bx v0 v1 v2) (hb : Below wr.heap.size wr w1) : Lq w w1 E F s m u16 u24 bx v0 v1 v2 := by
  obtain ⟨⟨V, U, hB, e0, e10, hX⟩, hbel⟩ := h
  exact ⟨⟨V, U, hB.below hl hb, e0, e10, hX.step (MStep.of_below hb)⟩, hbel.trans (hb.mono (bn_le hl hB.pm))⟩
theorem Lq.alloc (hl : Lay E) (h : Lq w wr E F s m u16 u24 bx v0 v1 v2) (o : Obj) : Lq w (wr.alloc o) E F s m u16 u24 bx v0 v1 v2 := h.below hl ((Below.refl _ _).alloc (Nat.le_refl _) _)
theorem Lq.drew (hl : Lay E) (h : Lq w wr E F s m u16 u24 bx v0 v1 v2) : Lq w wr.drew E F s m u16 u24 bx v0 v1 v2 := h.below hl (Below.refl _ _).drew
theorem Lq.drewN (hl : Lay E) (h : Lq w wr E F s m u16 u24 bx v0 v1 v2) (n : Nat) : Lq w (wr.drewN n) E F s m u16 u24 bx v0 v1 v2 := h.below hl (below_drewN (Below.refl _ _) n)

/-- Another box in the old one's stead. -/
theorem Lq.box (hl : Lay E) (hm : MLay E F) (h : Lq w wr E F s m u16 u24 bx v0 v1 v2) (a b c : Value) (t : TypeId) : Lq w (wr.alloc (Obj.cells #[a, b, c] t)) E F s m u16 u24 wr.heap.size a b c := by
  obtain ⟨⟨V, U, hB, e0, e10, hX⟩, hbel⟩ := h
  have hb : Below wr.heap.size wr (wr.alloc (Obj.cells #[a, b, c] t)) := (Below.refl _ _).alloc (Nat.le_refl _) _
  exact ⟨⟨V, U, hB.below hl hb, e0, e10, Box.new hm hB.mm a b c t⟩, hbel.trans (hb.mono (bn_le hl hB.pm))⟩

theorem Lq.set_en (hl : Lay E) (hm : MLay E F) (h : Lq w wr E F s m u16 u24 bx v0 v1 v2) (t : Nat) (x : Bool) : Lq w (wr.setCell ⟨F.me, t, none⟩ (.bool x)) E F s { m with ended := upd m.ended t x } u16 u24 bx v0 v1 v2 := by
  obtain ⟨⟨V, U, hB, e0, e10, hX⟩, hbel⟩ := h
  obtain ⟨p, q⟩ := hB.mm.set_en hm t x
  exact Lq.mstep hl hm hB hX hbel p q e0 e10
theorem Lq.set_vi (hl : Lay E) (hm : MLay E F) (h : Lq w wr E F s m u16 u24 bx v0 v1 v2) (t : Nat) (x : Bool) : Lq w (wr.setCell ⟨F.mv, t, none⟩ (.bool x)) E F s { m with victim := upd m.victim t x } u16 u24 bx v0 v1 v2 := by
  obtain ⟨⟨V, U, hB, e0, e10, hX⟩, hbel⟩ := h
  obtain ⟨p, q⟩ := hB.mm.set_vi hm t x
  exact Lq.mstep hl hm hB hX hbel p q e0 e10
theorem Lq.set_bg (hl : Lay E) (hm : MLay E F) (h : Lq w wr E F s m u16 u24 bx v0 v1 v2) (t : Nat) (x : Int) : Lq w (wr.setCell ⟨F.mb, t, none⟩ (.int .i64 x)) E F s { m with began := upd m.began t x } u16 u24 bx v0 v1 v2 := by
  obtain ⟨⟨V, U, hB, e0, e10, hX⟩, hbel⟩ := h
  obtain ⟨p, q⟩ := hB.mm.set_bg hm t x
  exact Lq.mstep hl hm hB hX hbel p q e0 e10
theorem Lq.nil_rd (hl : Lay E) (hm : MLay E F) (h : Lq w wr E F s m u16 u24 bx v0 v1 v2) (t : Nat) (ht : t < 3) : Lq w (wr.setCell ⟨F.mr, t, none⟩ (.slice none 0 0)) E F s { m with reads := upd m.reads t [] } u16 u24 bx v0 v1 v2 := by
  obtain ⟨⟨V, U, hB, e0, e10, hX⟩, hbel⟩ := h
  obtain ⟨p, q⟩ := hB.mm.nil_rd hm t ht
  exact Lq.mstep hl hm hB hX hbel p q (by rw [upd_other _ (by omega)]; exact e0) (by rw [upd_other _ (by omega)]; exact e10)
theorem Lq.nil_ws (hl : Lay E) (hm : MLay E F) (h : Lq w wr E F s m u16 u24 bx v0 v1 v2) (t : Nat) (ht : t < 3) : Lq w (wr.setCell ⟨F.ms, t, none⟩ (.slice none 0 0)) E F s { m with ws := upd m.ws t [] } u16 u24 bx v0 v1 v2 := by
  obtain ⟨⟨V, U, hB, e0, e10, hX⟩, hbel⟩ := h
  obtain ⟨p, q⟩ := hB.mm.nil_ws hm t ht
  exact Lq.mstep hl hm hB hX hbel p q (by rw [upd_other _ (by omega)]; exact e0) (by rw [upd_other _ (by omega)]; exact e10)

/-- The commits are in no memory of the model. -/
theorem Lq.set_cm (h : Lq w wr E F s m u16 u24 bx v0 v1 v2) (c : Nat) : Lq w wr E F s { m with commits := c } u16 u24 bx v0 v1 v2 := by
  obtain ⟨⟨V, U, hB, e0, e10, hX⟩, hbel⟩ := h
  exact ⟨⟨V, U, ⟨hB.pm, ⟨hB.mm.bank.congr (fun _ _ => rfl) (fun _ _ => rfl), hB.mm.fix.congr rfl rfl rfl (fun _ _ _ => rfl)⟩, hB.apart⟩, e0, e10, hX⟩, hbel⟩

theorem Lq.own_ev (h : Lq w wr E F s m u16 u24 bx v0 v1 v2) : wr.ownsRow F.base 60 12 u16 m.ev.length (evs m.ev) := by
  obtain ⟨⟨V, U, hB, e0, e10, hX⟩, hbel⟩ := h
  rw [← e0]; exact hB.mm.own_ev
theorem Lq.own_vs (h : Lq w wr E F s m u16 u24 bx v0 v1 v2) : wr.ownsRow F.base 3 1 u24 m.victims.length (ints m.victims) := by
  obtain ⟨⟨V, U, hB, e0, e10, hX⟩, hbel⟩ := h
  rw [← e10]; exact hB.mm.own_vs
theorem Lq.size (h : Lq w wr E F s m u16 u24 bx v0 v1 v2) : F.base ≤ wr.heap.size := by
  obtain ⟨⟨V, U, hB, e0, e10, hX⟩, hbel⟩ := h
  exact hB.mm.fix.size
theorem Lq.st (h : Lq w wr E F s m u16 u24 bx v0 v1 v2) : Static wr E := by
  obtain ⟨⟨V, U, hB, e0, e10, hX⟩, hbel⟩ := h
  exact hB.pm.fix.st
theorem Lq.c0 (h : Lq w wr E F s m u16 u24 bx v0 v1 v2) : wr.cell? ⟨bx, 0, none⟩ = some v0 := by
  obtain ⟨⟨V, U, hB, e0, e10, hX⟩, hbel⟩ := h
  exact hX.c0
theorem Lq.c1 (h : Lq w wr E F s m u16 u24 bx v0 v1 v2) : wr.cell? ⟨bx, 1, none⟩ = some v1 := by
  obtain ⟨⟨V, U, hB, e0, e10, hX⟩, hbel⟩ := h
  exact hX.c1
theorem Lq.c2 (h : Lq w wr E F s m u16 u24 bx v0 v1 v2) : wr.cell? ⟨bx, 2, none⟩ = some v2 := by
  obtain ⟨⟨V, U, hB, e0, e10, hX⟩, hbel⟩ := h
  exact hX.c2
theorem Lq.fix (h : Lq w wr E F s m u16 u24 bx v0 v1 v2) : (∀ t, t < 3 → wr.cell? ⟨F.mb, t, none⟩ = some (.int .i64 (m.began t))) ∧ (∀ t, wr.frozen? ⟨F.mb, t, none⟩ = false) ∧ (∀ t, t < 3 → wr.cell? ⟨F.mv, t, none⟩ = some (.bool (m.victim t))) ∧ (∀ t, wr.frozen? ⟨F.mv, t, none⟩ = false) ∧ (∀ t, t < 3 → wr.cell? ⟨F.me, t, none⟩ = some (.bool (m.ended t))) ∧ (∀ t, wr.frozen? ⟨F.me, t, none⟩ = false) := by
  obtain ⟨⟨V, U, hB, e0, e10, hX⟩, hbel⟩ := h
  exact ⟨fun t ht => hB.mm.fix.bg.cell ht, fun t => hB.mm.fix.bg.frozen t, fun t ht => hB.mm.fix.vi.cell ht, fun t => hB.mm.fix.vi.frozen t, fun t ht => hB.mm.fix.en.cell ht, fun t => hB.mm.fix.en.frozen t⟩
/-- A header of the model's reads, and its row. -/
theorem Lq.rd (h : Lq w wr E F s m u16 u24 bx v0 v1 v2) {t : Nat} (ht : t < 3) : ∃ ao cap, wr.cell? ⟨F.mr, t, none⟩ = some (.slice ao (m.reads t).length cap) ∧ wr.frozen? ⟨F.mr, t, none⟩ = false ∧ wr.ownsRow F.base 3 1 (.slice ao (m.reads t).length cap) (m.reads t).length (ints (m.reads t)) ∧
    (0 < (m.reads t).length → ∃ g, ao = some ⟨g, 0, none⟩ ∧ g < wr.heap.size ∧ ∀ j, j < (m.reads t).length → wr.cell? ⟨g, j, none⟩ = some (.int .i64 (((m.reads t).getD j 0 : Nat) : Int))) := by
  obtain ⟨⟨V, U, hB, e0, e10, hX⟩, hbel⟩ := h
  have ho := hB.mm.own_rd ht
  obtain ⟨ao, cap, hv, hrow⟩ := row_shape ho
  refine ⟨ao, cap, by rw [← hv]; exact hB.mm.fix.rd.cell ht, hB.mm.fix.rd.frozen t, by rw [← hv]; exact ho, fun h0 => ?_⟩
  obtain ⟨g, e1, e2, e3⟩ := hrow h0
  exact ⟨g, e1, e2, fun j hj => (e3 j (by omega)).trans (ints_get _ _ hj)⟩
theorem Lq.ws (h : Lq w wr E F s m u16 u24 bx v0 v1 v2) {t : Nat} (ht : t < 3) : ∃ ao cap, wr.cell? ⟨F.ms, t, none⟩ = some (.slice ao (m.ws t).length cap) ∧ wr.frozen? ⟨F.ms, t, none⟩ = false ∧ wr.ownsRow F.base 3 1 (.slice ao (m.ws t).length cap) (m.ws t).length (ints (m.ws t)) ∧
    (0 < (m.ws t).length → ∃ g, ao = some ⟨g, 0, none⟩ ∧ g < wr.heap.size ∧ ∀ j, j < (m.ws t).length → wr.cell? ⟨g, j, none⟩ = some (.int .i64 (((m.ws t).getD j 0 : Nat) : Int))) := by
  obtain ⟨⟨V, U, hB, e0, e10, hX⟩, hbel⟩ := h
  have ho := hB.mm.own_ws ht
  obtain ⟨ao, cap, hv, hrow⟩ := row_shape ho
  refine ⟨ao, cap, by rw [← hv]; exact hB.mm.fix.ws.cell ht, hB.mm.fix.ws.frozen t, by rw [← hv]; exact ho, fun h0 => ?_⟩
  obtain ⟨g, e1, e2, e3⟩ := hrow h0
  exact ⟨g, e1, e2, fun j hj => (e3 j (by omega)).trans (ints_get _ _ hj)⟩
theorem Lq.wrs (h : Lq w wr E F s m u16 u24 bx v0 v1 v2) {x : Nat} (hx : x < 3) : ∃ ao cap, wr.cell? ⟨F.mw, x, none⟩ = some (.slice ao (m.wr x).length cap) ∧ wr.frozen? ⟨F.mw, x, none⟩ = false ∧ wr.ownsRow F.base 68 2 (.slice ao (m.wr x).length cap) (m.wr x).length (prs (m.wr x)) ∧
    (0 < (m.wr x).length → ∃ g, ao = some ⟨g, 0, none⟩ ∧ g < wr.heap.size ∧ ∀ j, j < (m.wr x).length → wr.cell? ⟨g, j * 2, none⟩ = some (.int .i64 (((m.wr x).getD j (0, 0)).1 : Int)) ∧ wr.cell? ⟨g, j * 2 + 1, none⟩ = some (.int .i64 (((m.wr x).getD j (0, 0)).2 : Int))) := by
  obtain ⟨⟨V, U, hB, e0, e10, hX⟩, hbel⟩ := h
  have ho := hB.mm.own_wr hx
  obtain ⟨ao, cap, hv, hrow⟩ := row_shape ho
  refine ⟨ao, cap, by rw [← hv]; exact hB.mm.fix.wr.cell hx, hB.mm.fix.wr.frozen x, by rw [← hv]; exact ho, fun h0 => ?_⟩
  obtain ⟨g, e1, e2, e3⟩ := hrow h0
  refine ⟨g, e1, e2, fun j hj => ?_⟩
  obtain ⟨q1, q2⟩ := prs_get (m.wr x) j hj
  exact ⟨(e3 (j * 2) (by omega)).trans q1, (e3 (j * 2 + 1) (by omega)).trans q2⟩

/-! ### The appends -/
theorem Lq.put_ev {wX w2 : World} {g cap H : Nat} (hl : Lay E) (hm : MLay E F) (h : Lq w wr E F s m u16 u24 bx v0 v1 v2) (hb : Below wr.heap.size wr wX) (x : Ev)
    (hown : w2.ownsRow F.base 60 12 (.slice (some ⟨g, 0, none⟩) (m.ev.length + 1) cap) (m.ev.length + 1) (evs m.ev ++ x.cells)) (hg : wX.grownBy w2 u16.ownBlock) (hat : u16.ownBlock = some g ∨ g = H) (hH : wX.heap.size = H) :
    Lq w w2 E F s { m with ev := m.ev ++ [x] } (.slice (some ⟨g, 0, none⟩) (m.ev.length + 1) cap) u24 bx v0 v1 v2 := by
  obtain ⟨⟨V, U, hB, e0, e10, hX⟩, hbel⟩ := h.below hl hb
  rw [← e0] at hg hat
  obtain ⟨p, q⟩ := hB.mm.push_ev hm x hown hg hat hH
  exact Lq.mstep hl hm hB hX hbel p q (upd_same _ _ _) (by rw [upd_other _ (by omega)]; exact e10)
theorem Lq.put_vs {wX w2 : World} {g cap H : Nat} (hl : Lay E) (hm : MLay E F) (h : Lq w wr E F s m u16 u24 bx v0 v1 v2) (hb : Below wr.heap.size wr wX) (x : Nat)
    (hown : w2.ownsRow F.base 3 1 (.slice (some ⟨g, 0, none⟩) (m.victims.length + 1) cap) (m.victims.length + 1) (ints m.victims ++ [.int .i64 (x : Int)])) (hg : wX.grownBy w2 u24.ownBlock) (hat : u24.ownBlock = some g ∨ g = H) (hH : wX.heap.size = H) :
    Lq w w2 E F s { m with victims := m.victims ++ [x] } u16 (.slice (some ⟨g, 0, none⟩) (m.victims.length + 1) cap) bx v0 v1 v2 := by
  obtain ⟨⟨V, U, hB, e0, e10, hX⟩, hbel⟩ := h.below hl hb
  rw [← e10] at hg hat
  obtain ⟨p, q⟩ := hB.mm.push_vs hm x hown hg hat hH
  exact Lq.mstep hl hm hB hX hbel p q (by rw [upd_other _ (by omega)]; exact e0) (upd_same _ _ _)

/-- Behind an append that the header follows: the header's cell as it was. -/
theorem grown_fix {wX w2 : World} {m : St} {U : Nat → Value} {v : Value} {b t : Nat} (hfx : MM wX F m U) (hbb : mfixed F b) (hbs : b < F.base) (hlt : ∀ k, v.ownBlock = some k → F.base ≤ k) (hg : wX.grownBy w2 v.ownBlock) {u : Value} (hc : wX.cell? ⟨b, t, none⟩ = some u) (hf : wX.frozen? ⟨b, t, none⟩ = false) :
    w2.cell? ⟨b, t, none⟩ = some u ∧ w2.frozen? ⟨b, t, none⟩ = false := by
  have hk : Kept (fun b => F.base ≤ b) wX w2 := Kept.grown hg hlt
  exact ⟨hk.cell hc (by omega), by rw [hk.frozen (cell_lt hc) (by omega)]; exact hf⟩

theorem Lq.put_rd {wX w2 : World} {g cap H t : Nat} {v : Value} (hl : Lay E) (hm : MLay E F) (h : Lq w wr E F s m u16 u24 bx v0 v1 v2) (hb : Below wr.heap.size wr wX) (ht : t < 3) (hv : wr.cell? ⟨F.mr, t, none⟩ = some v) (x : Nat)
    (hown : w2.ownsRow F.base 3 1 (.slice (some ⟨g, 0, none⟩) ((m.reads t).length + 1) cap) ((m.reads t).length + 1) (ints (m.reads t) ++ [.int .i64 (x : Int)])) (hg : wX.grownBy w2 v.ownBlock) (hat : v.ownBlock = some g ∨ g = H) (hH : wX.heap.size = H) :
    Lq w (w2.setCell ⟨F.mr, t, none⟩ (.slice (some ⟨g, 0, none⟩) ((m.reads t).length + 1) cap)) E F s { m with reads := upd m.reads t (m.reads t ++ [x]) } u16 u24 bx v0 v1 v2 ∧ w2.cell? ⟨F.mr, t, none⟩ = some v ∧ w2.frozen? ⟨F.mr, t, none⟩ = false := by
  have hv' := (Kept.of_below (p := fun _ => False) hb).cell hv id
  obtain ⟨⟨V, U, hB, e0, e10, hX⟩, hbel⟩ := h.below hl hb
  have hvU : U (1 + t) = v := by
    have h1 := (hB.mm.fix.rd.cell ht).symm.trans hv'
    injection h1
  have hlt : ∀ k, v.ownBlock = some k → F.base ≤ k := fun k e => ((hB.mm.own_rd ht).lt k (by rw [hvU]; exact e)).1
  refine ⟨?_, grown_fix hB.mm (.inr (.inl rfl)) (by obtain ⟨k0, k1, k2, k3, k4, k5, k6⟩ := hm; omega) hlt hg hv' (hB.mm.fix.rd.frozen t)⟩
  rw [← hvU] at hg hat
  obtain ⟨p, q⟩ := hB.mm.push_rd hm t ht x hown hg hat hH
  exact Lq.mstep hl hm hB hX hbel p q (by rw [upd_other _ (by omega)]; exact e0) (by rw [upd_other _ (by omega)]; exact e10)
theorem Lq.put_ws {wX w2 : World} {g cap H t : Nat} {v : Value} (hl : Lay E) (hm : MLay E F) (h : Lq w wr E F s m u16 u24 bx v0 v1 v2) (hb : Below wr.heap.size wr wX) (ht : t < 3) (hv : wr.cell? ⟨F.ms, t, none⟩ = some v) (x : Nat)
    (hown : w2.ownsRow F.base 3 1 (.slice (some ⟨g, 0, none⟩) ((m.ws t).length + 1) cap) ((m.ws t).length + 1) (ints (m.ws t) ++ [.int .i64 (x : Int)])) (hg : wX.grownBy w2 v.ownBlock) (hat : v.ownBlock = some g ∨ g = H) (hH : wX.heap.size = H) :
    Lq w (w2.setCell ⟨F.ms, t, none⟩ (.slice (some ⟨g, 0, none⟩) ((m.ws t).length + 1) cap)) E F s { m with ws := upd m.ws t (m.ws t ++ [x]) } u16 u24 bx v0 v1 v2 ∧ w2.cell? ⟨F.ms, t, none⟩ = some v ∧ w2.frozen? ⟨F.ms, t, none⟩ = false := by
  have hv' := (Kept.of_below (p := fun _ => False) hb).cell hv id
  obtain ⟨⟨V, U, hB, e0, e10, hX⟩, hbel⟩ := h.below hl hb
  have hvU : U (4 + t) = v := by
    have h1 := (hB.mm.fix.ws.cell ht).symm.trans hv'
    injection h1
  have hlt : ∀ k, v.ownBlock = some k → F.base ≤ k := fun k e => ((hB.mm.own_ws ht).lt k (by rw [hvU]; exact e)).1
  refine ⟨?_, grown_fix hB.mm (.inr (.inr (.inl rfl))) (by obtain ⟨k0, k1, k2, k3, k4, k5, k6⟩ := hm; omega) hlt hg hv' (hB.mm.fix.ws.frozen t)⟩
  rw [← hvU] at hg hat
  obtain ⟨p, q⟩ := hB.mm.push_ws hm t ht x hown hg hat hH
  exact Lq.mstep hl hm hB hX hbel p q (by rw [upd_other _ (by omega)]; exact e0) (by rw [upd_other _ (by omega)]; exact e10)
theorem Lq.put_wr {wX w2 : World} {g cap H t : Nat} {v : Value} (hl : Lay E) (hm : MLay E F) (h : Lq w wr E F s m u16 u24 bx v0 v1 v2) (hb : Below wr.heap.size wr wX) (ht : t < 3) (hv : wr.cell? ⟨F.mw, t, none⟩ = some v) (x y : Nat)
    (hown : w2.ownsRow F.base 68 2 (.slice (some ⟨g, 0, none⟩) ((m.wr t).length + 1) cap) ((m.wr t).length + 1) (prs (m.wr t) ++ [.int .i64 (x : Int), .int .i64 (y : Int)])) (hg : wX.grownBy w2 v.ownBlock) (hat : v.ownBlock = some g ∨ g = H) (hH : wX.heap.size = H) :
    Lq w (w2.setCell ⟨F.mw, t, none⟩ (.slice (some ⟨g, 0, none⟩) ((m.wr t).length + 1) cap)) E F s { m with wr := upd m.wr t (m.wr t ++ [(x, y)]) } u16 u24 bx v0 v1 v2 ∧ w2.cell? ⟨F.mw, t, none⟩ = some v ∧ w2.frozen? ⟨F.mw, t, none⟩ = false := by
  have hv' := (Kept.of_below (p := fun _ => False) hb).cell hv id
  obtain ⟨⟨V, U, hB, e0, e10, hX⟩, hbel⟩ := h.below hl hb
  have hvU : U (7 + t) = v := by
    have h1 := (hB.mm.fix.wr.cell ht).symm.trans hv'
    injection h1
  have hlt : ∀ k, v.ownBlock = some k → F.base ≤ k := fun k e => ((hB.mm.own_wr ht).lt k (by rw [hvU]; exact e)).1
  refine ⟨?_, grown_fix hB.mm (.inr (.inr (.inr (.inl rfl)))) (by obtain ⟨k0, k1, k2, k3, k4, k5, k6⟩ := hm; omega) hlt hg hv' (hB.mm.fix.wr.frozen t)⟩
  rw [← hvU] at hg hat
  obtain ⟨p, q⟩ := hB.mm.push_wr hm t ht x y hown hg hat hH
  exact Lq.mstep hl hm hB hX hbel p q (by rw [upd_other _ (by omega)]; exact e0) (by rw [upd_other _ (by omega)]; exact e10)
end

/-- What holds at the second loop's head. -/
structure Lh (w wr : World) (E : Env) (F : MEnv) (s m : St) (u16 u24 : Value) : Prop where
  ex : ∃ V U, Both wr E F s m V U ∧ U 0 = u16 ∧ U 10 = u24
  bel : Below E.bn w wr
theorem Lq.head {w wr : World} {E : Env} {F : MEnv} {s m : St} {u16 u24 : Value} {bx : Nat} {v0 v1 v2 : Value} (h : Lq w wr E F s m u16 u24 bx v0 v1 v2) : Lh w wr E F s m u16 u24 := by
  obtain ⟨⟨V, U, hB, e0, e10, hX⟩, hbel⟩ := h
  exact ⟨⟨V, U, hB, e0, e10⟩, hbel⟩
/-- The program has submitted. -/
theorem Lh.sub {w wr w1 : World} {E : Env} {F : MEnv} {s s1 m : St} {u16 u24 : Value} {V V1 U : Nat → Value} (hl : Lay E) (hm : MLay E F) (hB : Both wr E F s m V U) (e0 : U 0 = u16) (e10 : U 10 = u24) (hb : Below E.bn w wr) (hp : PM w1 E s1 V1) (hs : Step E wr V w1 V1) : Lh w w1 E F s1 m u16 u24 :=
  ⟨⟨V1, U, hB.sub hl hm hp hs, e0, e10⟩, hb.trans (hs.kept.below (bn_le hl hB.pm) (fun c hc => foot_ge hl hB.pm hc))⟩
theorem Lh.box {w wr : World} {E : Env} {F : MEnv} {s m : St} {u16 u24 : Value} (hl : Lay E) (hm : MLay E F) (h : Lh w wr E F s m u16 u24) (a b c : Value) (t : TypeId) : Lq w (wr.alloc (Obj.cells #[a, b, c] t)) E F s m u16 u24 wr.heap.size a b c := by
  obtain ⟨⟨V, U, hB, e0, e10⟩, hbel⟩ := h
  have hb : Below wr.heap.size wr (wr.alloc (Obj.cells #[a, b, c] t)) := (Below.refl _ _).alloc (Nat.le_refl _) _
  exact ⟨⟨V, U, hB.below hl hb, e0, e10, Box.new hm hB.mm a b c t⟩, hbel.trans (hb.mono (bn_le hl hB.pm))⟩
theorem Lh.set_bg {w wr : World} {E : Env} {F : MEnv} {s m : St} {u16 u24 : Value} (hl : Lay E) (hm : MLay E F) (h : Lh w wr E F s m u16 u24) (t : Nat) (x : Int) : Lh w (wr.setCell ⟨F.mb, t, none⟩ (.int .i64 x)) E F s { m with began := upd m.began t x } u16 u24 := by
  obtain ⟨⟨V, U, hB, e0, e10⟩, hbel⟩ := h
  obtain ⟨p, q⟩ := hB.mm.set_bg hm t x
  exact ⟨⟨V, U, hB.mod hl hm p q, e0, e10⟩, hbel.trans (q.kept.below (bn_le hl hB.pm) (fun c hc => mfoot_ge hl hm hB.mm hc))⟩
/-- The two worlds behind the box of the operation and the model's begin. -/
theorem Lh.begin_neg {w w1 : World} {E : Env} {F : MEnv} {s m : St} {u16 u24 : Value} (hl : Lay E) (hm : MLay E F) (h : Lh w w1 E F s m u16 u24) (t : Nat) (hn : m.began t < 0) (a b c : Value) : Lq w ((w1.setCell ⟨F.mb, t, none⟩ (.int .i64 (m.commits : Int))).alloc (Obj.cells #[a, b, c] 39)) E F s (beginSt m t) u16 u24 w1.heap.size a b c := by
  have := (h.set_bg hl hm t (m.commits : Int)).box hl hm a b c 39
  rw [show (w1.setCell ⟨F.mb, t, none⟩ (.int .i64 (m.commits : Int))).heap.size = w1.heap.size by simp] at this
  unfold beginSt
  rw [if_pos hn]
  exact this
theorem Lh.begin_pos {w w1 : World} {E : Env} {F : MEnv} {s m : St} {u16 u24 : Value} (hl : Lay E) (hm : MLay E F) (h : Lh w w1 E F s m u16 u24) (t : Nat) (hn : ¬ m.began t < 0) (a b c : Value) : Lq w (w1.alloc (Obj.cells #[a, b, c] 39)) E F s (beginSt m t) u16 u24 w1.heap.size a b c := by
  unfold beginSt
  rw [if_neg hn]
  exact h.box hl hm a b c 39
theorem Lh.cells {w wr : World} {E : Env} {F : MEnv} {s m : St} {u16 u24 : Value} (h : Lh w wr E F s m u16 u24) : Static wr E ∧ (∀ t, t < 3 → wr.cell? ⟨F.mb, t, none⟩ = some (.int .i64 (m.began t))) ∧ (∀ t, wr.frozen? ⟨F.mb, t, none⟩ = false) ∧ (∀ t, t < 3 → ∃ ao cap, wr.cell? ⟨F.mr, t, none⟩ = some (.slice ao (m.reads t).length cap)) ∧ (∀ t, wr.frozen? ⟨F.mr, t, none⟩ = false) ∧
    (∀ t, t < 3 → ∃ ao cap, wr.cell? ⟨F.ms, t, none⟩ = some (.slice ao (m.ws t).length cap)) ∧ (∀ t, wr.frozen? ⟨F.ms, t, none⟩ = false) := by
  obtain ⟨⟨V, U, hB, e0, e10⟩, hbel⟩ := h
  refine ⟨hB.pm.fix.st, fun t ht => hB.mm.fix.bg.cell ht, fun t => hB.mm.fix.bg.frozen t, fun t ht => ?_, fun t => hB.mm.fix.rd.frozen t, fun t ht => ?_, fun t => hB.mm.fix.ws.frozen t⟩
  · obtain ⟨ao, cap, hv, _⟩ := row_shape (hB.mm.own_rd ht)
    exact ⟨ao, cap, by rw [← hv]; exact hB.mm.fix.rd.cell ht⟩
  · obtain ⟨ao, cap, hv, _⟩ := row_shape (hB.mm.own_ws ht)
    exact ⟨ao, cap, by rw [← hv]; exact hB.mm.fix.ws.cell ht⟩

/-- The plain bounds on the model's state in a round. -/
structure MGood (E : Env) (m : St) : Prop where
  ev : m.ev.length ≤ 100000
  rd : ∀ t, (m.reads t).length ≤ 300
  rdx : ∀ t, ∀ x ∈ m.reads t, x < 3
  ws : ∀ t, (m.ws t).length ≤ 300
  wsx : ∀ t, ∀ j ∈ m.ws t, j < E.n ∧ E.ac j = 2
  wr : ∀ x, (m.wr x).length ≤ 100000
  wrt : ∀ x, ∀ p ∈ m.wr x, p.2 < 3
  vs : m.victims.length ≤ 300
  cm : m.commits ≤ 300
  bg : ∀ t, -1 ≤ m.began t ∧ m.began t ≤ 300

theorem mgood {E : Env} {i : Nat} {s : St} {mw : Nat → List (Nat × Nat)} (hI : Inv E i s) (hW : WR i s mw) (hi : i ≤ 300) (t : Nat) : MGood E (beginSt (withW s mw) t) := by
  have hb := hI.begin t
  rw [begin_with]
  exact ⟨by have := hb.ev; show (beginSt s t).ev.length ≤ _; omega, fun u => by have := hb.rd u; show ((beginSt s t).reads u).length ≤ _; omega, hb.rdx, fun u => by have := hb.ws u; show ((beginSt s t).ws u).length ≤ _; omega, hb.wsx, fun x => by have := hW.len x; show (mw x).length ≤ _; omega, hW.lt,
    by have := hb.vs; show (beginSt s t).victims.length ≤ _; omega, by have := hb.cm; show (beginSt s t).commits ≤ _; omega, fun u => by have := hb.bg u; show -1 ≤ (beginSt s t).began u ∧ (beginSt s t).began u ≤ _; omega⟩

theorem begin_commits (s : St) (mw : Nat → List (Nat × Nat)) (t : Nat) : (beginSt (withW s mw) t).commits = s.commits := by
  rw [begin_with]; exact (begin_wr s t).2.2.1
theorem WR.mono {i : Nat} {s : St} {mw : Nat → List (Nat × Nat)} (h : WR i s mw) : WR (i + 1) s mw := ⟨h.same, fun x => by have := h.len x; omega, h.lt⟩
end Go.Proofs.Ybulkiec
