/-
  LawS0444BRun: (*optimistic).submit.
-/
import Derived.Test.YbulkiecCommit
namespace Go.Proofs.Ybulkiec
open Go.ChangeShapes Go.WideShapes Go.ChangeAt Go.RowKit
set_option linter.unusedVariables false
attribute [local go_sem ↓] Go.wp_at_zero Go.wp_at_succ

/-- A run begins where none is open. -/
def beginSt (s : St) (t : Nat) : St := if s.began t < 0 then { s with began := upd s.began t (s.commits : Int) } else s

theorem good_begin {s : St} {t : Nat} (h : Good s) : Good (beginSt s t) := by
  unfold beginSt
  split
  · exact ⟨h.ev, h.rd, h.rdx, h.ws, h.wr, h.wrt, h.up, h.vs, h.cm, fun u hu => by
      show -1 ≤ upd s.began t (s.commits : Int) u ∧ upd s.began t (s.commits : Int) u ≤ 300
      by_cases e : u = t
      · subst e; rw [upd_same]; have := h.cm; omega
      · rw [upd_other _ e]; exact h.bg u hu⟩
  · exact h

theorem PM.own_rd {w : World} {E : Env} {s : St} {V : Nat → Value} (h : PM w E s V) {x : Nat} (hx : x < 3) : w.ownsRow E.base 3 1 (V (1 + x)) (s.reads x).length (ints (s.reads x)) := by
  have := h.bank.own (1 + x) (by omega)
  rw [conL_rd s hx, conC_rd s hx] at this
  unfold ety esz at this
  rw [if_neg (by omega), if_pos (by omega), if_neg (by omega), if_pos (by omega)] at this
  exact this

theorem after_rd {wr wX w2 : World} {E : Env} {s : St} {V : Nat → Value} {x c g cap H : Nat} {v : Value} (hl : Lay E) (h : PM wr E s V) (hB : Below wr.heap.size wr wX) (hv : V (1 + x) = v) (hx : x < 3)
    (hown : w2.ownsRow E.base 3 1 (.slice (some ⟨g, 0, none⟩) ((s.reads x).length + 1) cap) ((s.reads x).length + 1) (ints (s.reads x) ++ [.int .i64 (c : Int)])) (hg : wX.grownBy w2 v.ownBlock) (hat : v.ownBlock = some g ∨ g = H) (hH : wX.heap.size = H) :
    (PM (w2.setCell ⟨E.brd, x, none⟩ (.slice (some ⟨g, 0, none⟩) ((s.reads x).length + 1) cap)) E { s with reads := upd s.reads x (s.reads x ++ [c]) } (upd V (1 + x) (.slice (some ⟨g, 0, none⟩) ((s.reads x).length + 1) cap)) ∧
      Step E wr V (w2.setCell ⟨E.brd, x, none⟩ (.slice (some ⟨g, 0, none⟩) ((s.reads x).length + 1) cap)) (upd V (1 + x) (.slice (some ⟨g, 0, none⟩) ((s.reads x).length + 1) cap))) ∧
      w2.cell? ⟨E.br, 17, none⟩ = some (.slice (some ⟨E.brd, 0, none⟩) 3 3) ∧ w2.cell? ⟨E.br, 6, none⟩ = some (.slice (some ⟨E.bit, 0, none⟩) E.n E.n) ∧ (∀ i, i < E.n → w2.cell? ⟨E.bit, i, none⟩ = some (.int .i64 (E.io i))) ∧ w2.cell? ⟨E.brd, x, none⟩ = some v ∧ w2.frozen? ⟨E.brd, x, none⟩ = false := by
  have hX := h.below hl hB
  have hlt : ∀ k, v.ownBlock = some k → E.base ≤ k := fun k e => ((hX.own_rd hx).lt k (by rw [hv]; exact e)).1
  have hk : Kept (fun b => E.base ≤ b) wX w2 := Kept.grown hg hlt
  have hbr : E.br < E.base := by obtain ⟨l1, l2, l3, l4, l5, l6, l7, l8, l9, l10, l11, l12, l13, l14, l15, l16, _⟩ := hl; omega
  have hbw : E.brd < E.base := by obtain ⟨l1, l2, l3, l4, l5, l6, l7, l8, l9, l10, l11, l12, l13, l14, l15, l16, _⟩ := hl; omega
  have hbi : E.bit < E.base := by obtain ⟨l1, l2, l3, l4, l5, l6, l7, l8, l9, l10, l11, l12, l13, l14, l15, l16, _⟩ := hl; omega
  rw [← hv] at hg hat
  obtain ⟨p, q⟩ := hX.push_rd hl x hx c hown hg hat hH
  refine ⟨⟨p, (Step.of_below hB).trans q⟩, hk.cell (hX.fix.r.cell (by omega)) (by omega), hk.cell (hX.fix.r.cell (by omega)) (by omega), fun i hi => hk.cell (hX.fix.st.io i hi) (by omega), ?_, ?_⟩
  · rw [← hv]; exact hk.cell (hX.fix.rd.cell hx) (by omega)
  · rw [hk.frozen (by have := hX.fix.size; omega) (by omega)]; exact hX.fix.rd.frozen x

theorem PM.own_ws {w : World} {E : Env} {s : St} {V : Nat → Value} (h : PM w E s V) {x : Nat} (hx : x < 3) : w.ownsRow E.base 3 1 (V (4 + x)) (s.ws x).length (ints (s.ws x)) := by
  have := h.bank.own (4 + x) (by omega)
  rw [conL_ws s hx, conC_ws s hx] at this
  unfold ety esz at this
  rw [if_neg (by omega), if_pos (by omega), if_neg (by omega), if_pos (by omega)] at this
  exact this

theorem after_ws {wr wX w2 : World} {E : Env} {s : St} {V : Nat → Value} {x c g cap H : Nat} {v : Value} (hl : Lay E) (h : PM wr E s V) (hB : Below wr.heap.size wr wX) (hv : V (4 + x) = v) (hx : x < 3)
    (hown : w2.ownsRow E.base 3 1 (.slice (some ⟨g, 0, none⟩) ((s.ws x).length + 1) cap) ((s.ws x).length + 1) (ints (s.ws x) ++ [.int .i64 (c : Int)])) (hg : wX.grownBy w2 v.ownBlock) (hat : v.ownBlock = some g ∨ g = H) (hH : wX.heap.size = H) :
    (PM (w2.setCell ⟨E.bws, x, none⟩ (.slice (some ⟨g, 0, none⟩) ((s.ws x).length + 1) cap)) E { s with ws := upd s.ws x (s.ws x ++ [c]) } (upd V (4 + x) (.slice (some ⟨g, 0, none⟩) ((s.ws x).length + 1) cap)) ∧
      Step E wr V (w2.setCell ⟨E.bws, x, none⟩ (.slice (some ⟨g, 0, none⟩) ((s.ws x).length + 1) cap)) (upd V (4 + x) (.slice (some ⟨g, 0, none⟩) ((s.ws x).length + 1) cap))) ∧
      w2.cell? ⟨E.br, 18, none⟩ = some (.slice (some ⟨E.bws, 0, none⟩) 3 3) ∧ w2.cell? ⟨E.br, 6, none⟩ = some (.slice (some ⟨E.bit, 0, none⟩) E.n E.n) ∧ (∀ i, i < E.n → w2.cell? ⟨E.bit, i, none⟩ = some (.int .i64 (E.io i))) ∧ w2.cell? ⟨E.bws, x, none⟩ = some v ∧ w2.frozen? ⟨E.bws, x, none⟩ = false := by
  have hX := h.below hl hB
  have hlt : ∀ k, v.ownBlock = some k → E.base ≤ k := fun k e => ((hX.own_ws hx).lt k (by rw [hv]; exact e)).1
  have hk : Kept (fun b => E.base ≤ b) wX w2 := Kept.grown hg hlt
  have hbr : E.br < E.base := by obtain ⟨l1, l2, l3, l4, l5, l6, l7, l8, l9, l10, l11, l12, l13, l14, l15, l16, _⟩ := hl; omega
  have hbw : E.bws < E.base := by obtain ⟨l1, l2, l3, l4, l5, l6, l7, l8, l9, l10, l11, l12, l13, l14, l15, l16, _⟩ := hl; omega
  have hbi : E.bit < E.base := by obtain ⟨l1, l2, l3, l4, l5, l6, l7, l8, l9, l10, l11, l12, l13, l14, l15, l16, _⟩ := hl; omega
  rw [← hv] at hg hat
  obtain ⟨p, q⟩ := hX.push_ws hl x hx c hown hg hat hH
  refine ⟨⟨p, (Step.of_below hB).trans q⟩, hk.cell (hX.fix.r.cell (by omega)) (by omega), hk.cell (hX.fix.r.cell (by omega)) (by omega), fun i hi => hk.cell (hX.fix.st.io i hi) (by omega), ?_, ?_⟩
  · rw [← hv]; exact hk.cell (hX.fix.ws.cell hx) (by omega)
  · rw [hk.frozen (by have := hX.fix.size; omega) (by omega)]; exact hX.fix.ws.frozen x

end Go.Proofs.Ybulkiec
