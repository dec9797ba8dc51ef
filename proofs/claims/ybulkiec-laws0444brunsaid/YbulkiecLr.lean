/-
  LawS0444BRun: more laws on the second loop's round.
-/
import Derived.Test.YbulkiecLq
namespace Go.Proofs.Ybulkiec
open Go.ChangeShapes Go.WideShapes Go.ChangeAt Go.RowKit
set_option linter.unusedVariables false

theorem own_below {w w' : World} {base : Nat} {e : TypeId} {sz : Nat} {v : Value} {n : Nat} {xs : List Value} (ho : w.ownsRow base e sz v n xs) (hb : Below w.heap.size w w') : w'.ownsRow base e sz v n xs :=
  ho.kept (row := none) ⟨hb.os, hb.tape, hb.output, hb.size, fun k hk _ => hb.block k hk⟩ (by cases v.ownBlock <;> simp)
theorem own_kept {w w' : World} {base : Nat} {e : TypeId} {sz : Nat} {v : Value} {n : Nat} {xs : List Value} (ho : w.ownsRow base e sz v n xs) (hg : w.grownBy w' v.ownBlock) {b o : Nat} {u : Value} (hb : b < base) (hc : w.cell? ⟨b, o, none⟩ = some u) : w'.cell? ⟨b, o, none⟩ = some u :=
  (Kept.grown (p := fun b => base ≤ b) hg (fun k e => (ho.lt k e).1)).cell hc (by omega)
theorem bel_cell {w w' : World} (hb : Below w.heap.size w w') {b o : Nat} {u : Value} (hc : w.cell? ⟨b, o, none⟩ = some u) : w'.cell? ⟨b, o, none⟩ = some u := (Kept.of_below (p := fun _ => False) hb).cell hc id
theorem unset_far {w : World} {b o b' o' : Nat} {u v : Value} (h : (w.setCell ⟨b', o', none⟩ u).cell? ⟨b, o, none⟩ = some v) (hn : b ≠ b') : w.cell? ⟨b, o, none⟩ = some v := by
  have := World.cell?_of_block (w := w) (w' := w.setCell ⟨b', o', none⟩ u) (a := ⟨b, o, none⟩) (Below.heap_setCell _ _ _ _ hn)
  rw [← this]; exact h

section
variable {w wr w1 : World} {E : Env} {F : MEnv} {s m : St} {u16 u24 : Value} {bx : Nat} {v0 v1 v2 : Value}
theorem Lq.rd_at (h : Lq w wr E F s m u16 u24 bx v0 v1 v2) {t : Nat} (ht : t < 3) {v : Value} (hc : wr.cell? ⟨F.mr, t, none⟩ = some v) : wr.ownsRow F.base 3 1 v (m.reads t).length (ints (m.reads t)) := by
  obtain ⟨ao, cap, h1, h2, h3, _⟩ := h.rd ht
  have h4 := hc.symm.trans h1
  injection h4 with h4
  rw [h4]; exact h3
theorem Lq.ws_at (h : Lq w wr E F s m u16 u24 bx v0 v1 v2) {t : Nat} (ht : t < 3) {v : Value} (hc : wr.cell? ⟨F.ms, t, none⟩ = some v) : wr.ownsRow F.base 3 1 v (m.ws t).length (ints (m.ws t)) := by
  obtain ⟨ao, cap, h1, h2, h3, _⟩ := h.ws ht
  have h4 := hc.symm.trans h1
  injection h4 with h4
  rw [h4]; exact h3
theorem Lq.nbx (hm : MLay E F) (h : Lq w wr E F s m u16 u24 bx v0 v1 v2) : bx ≠ F.mb ∧ bx ≠ F.mr ∧ bx ≠ F.ms ∧ bx ≠ F.mw ∧ bx ≠ F.mv ∧ bx ≠ F.me ∧ bx < wr.heap.size := by
  obtain ⟨⟨V, U, hB, e0, e10, hX⟩, hbel⟩ := h
  have h1 := hX.nf
  have h2 : ¬ mfixed F bx := fun hf => h1 (.inl hf)
  unfold mfixed at h2
  exact ⟨by omega, by omega, by omega, by omega, by omega, by omega, cell_lt hX.c0⟩
theorem Lh.nil_rd (hl : Lay E) (hm : MLay E F) (h : Lh w wr E F s m u16 u24) (t : Nat) (ht : t < 3) : Lh w (wr.setCell ⟨F.mr, t, none⟩ (.slice none 0 0)) E F s { m with reads := upd m.reads t [] } u16 u24 := by
  obtain ⟨⟨V, U, hB, e0, e10⟩, hbel⟩ := h
  obtain ⟨p, q⟩ := hB.mm.nil_rd hm t ht
  exact ⟨⟨V, _, hB.mod hl hm p q, by rw [upd_other _ (by omega)]; exact e0, by rw [upd_other _ (by omega)]; exact e10⟩, hbel.trans (q.kept.below (bn_le hl hB.pm) (fun c hc => mfoot_ge hl hm hB.mm hc))⟩
theorem Lh.nil_ws (hl : Lay E) (hm : MLay E F) (h : Lh w wr E F s m u16 u24) (t : Nat) (ht : t < 3) : Lh w (wr.setCell ⟨F.ms, t, none⟩ (.slice none 0 0)) E F s { m with ws := upd m.ws t [] } u16 u24 := by
  obtain ⟨⟨V, U, hB, e0, e10⟩, hbel⟩ := h
  obtain ⟨p, q⟩ := hB.mm.nil_ws hm t ht
  exact ⟨⟨V, _, hB.mod hl hm p q, by rw [upd_other _ (by omega)]; exact e0, by rw [upd_other _ (by omega)]; exact e10⟩, hbel.trans (q.kept.below (bn_le hl hB.pm) (fun c hc => mfoot_ge hl hm hB.mm hc))⟩
theorem Lh.begun (hl : Lay E) (hm : MLay E F) (h : Lh w wr E F s m u16 u24) (t : Nat) (hn : m.began t < 0) : Lh w (wr.setCell ⟨F.mb, t, none⟩ (.int .i64 (m.commits : Int))) E F s (beginSt m t) u16 u24 := by
  unfold beginSt
  rw [if_pos hn]
  exact h.set_bg hl hm t _
theorem Lh.begun_pos (h : Lh w wr E F s m u16 u24) (t : Nat) (hn : ¬ m.began t < 0) : Lh w wr E F s (beginSt m t) u16 u24 := by
  unfold beginSt
  rw [if_neg hn]
  exact h
end

/-- The commits behind a submit, out of the model's state. -/
theorem com_of {E : Env} {s m : St} {mw : Nat → List (Nat × Nat)} {i : Nat} (h : m = withW (subSt E s i) (nextMw E s mw i)) {c : Nat} (hc : m.commits = c) : (subSt E s i).commits = c := by
  rw [← hc, h]; rfl

theorem begin_m1 (s : St) (mw : Nat → List (Nat × Nat)) (t : Nat) : (beginSt (withW s mw) t).reads = s.reads ∧ (beginSt (withW s mw) t).ws = s.ws ∧ (beginSt (withW s mw) t).commits = s.commits ∧ (beginSt (withW s mw) t).ev = s.ev := by
  rw [begin_with]
  obtain ⟨b1, b2, b3, b4, b5⟩ := begin_wr s t
  exact ⟨b4, b2, b3, b5⟩

/-- The cells of the k-th event. -/
theorem evs_get (l : List Ev) : ∀ k (hk : k < l.length) (j : Nat), j < 12 → (evs l)[k * 12 + j]? = (l[k]'hk).cells[j]? := by
  induction l with
  | nil => intro k hk; simp at hk
  | cons e r ih =>
    intro k hk j hj
    have he : evs (e :: r) = e.cells ++ evs r := rfl
    have hlen : e.cells.length = 12 := rfl
    rw [he]
    cases k with
    | zero => rw [List.getElem?_append_left (by omega)]; simp
    | succ k =>
      rw [List.getElem?_append_right (by omega)]
      have := ih k (by simpa using hk) j hj
      rw [hlen, show (k + 1) * 12 + j - 12 = k * 12 + j by omega, this]
      simp
end Go.Proofs.Ybulkiec
