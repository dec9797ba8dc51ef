/-
  LawS0444BRun: what each append and each store does to the program's memory.
-/
import Derived.Test.YbulkiecState
namespace Go.Proofs.Ybulkiec
open Go.ChangeShapes Go.WideShapes Go.ChangeAt Go.RowKit
set_option linter.unusedVariables false
set_option linter.unusedSimpArgs false

theorem evs_snoc (l : List Ev) (e : Ev) : evs (l ++ [e]) = evs l ++ e.cells := by simp [evs]
theorem ints_snoc (l : List Nat) (x : Nat) : ints (l ++ [x]) = ints l ++ [.int .i64 (x : Int)] := by simp [ints]
theorem prs_snoc (l : List (Nat × Nat)) (x y : Nat) : prs (l ++ [(x, y)]) = prs l ++ [.int .i64 (x : Int), .int .i64 (y : Int)] := by simp [prs]

theorem con_ev (s : St) (x : Ev) : (∀ j, j < 11 → upd (conL s) 0 (s.ev.length + 1) j = conL { s with ev := s.ev ++ [x] } j) ∧ (∀ j, j < 11 → upd (conC s) 0 (evs (s.ev) ++ x.cells) j = conC { s with ev := s.ev ++ [x] } j) := by
  refine ⟨fun j hj => ?_, fun j hj => ?_⟩
  · by_cases e : j = 0
    · subst e
      rw [upd_same]
      simp [conL]
    · rw [upd_other _ e]
      simp [conL, conC, e]
  · by_cases e : j = 0
    · subst e
      rw [upd_same]
      simp [conC, evs_snoc]
    · rw [upd_other _ e]
      simp [conL, conC, e]

/-- Behind 'append' and the store of the new header. -/
theorem PM.push_ev {w w1 : World} {E : Env} {s : St} {V : Nat → Value} (hl : Lay E) (h : PM w E s V) (x : Ev) {g cap H : Nat}
    (hown : w1.ownsRow E.base 60 12 (.slice (some ⟨g, 0, none⟩) (s.ev.length + 1) cap) (s.ev.length + 1) (evs (s.ev) ++ x.cells)) (hg : w.grownBy w1 (V 0).ownBlock) (hat : (V 0).ownBlock = some g ∨ g = H) (hH : w.heap.size = H) :
    PM (w1.setCell ⟨E.bg, 0, none⟩ (.slice (some ⟨g, 0, none⟩) (s.ev.length + 1) cap)) E { s with ev := s.ev ++ [x] } (upd V 0 (.slice (some ⟨g, 0, none⟩) (s.ev.length + 1) cap)) ∧
    Step E w V (w1.setCell ⟨E.bg, 0, none⟩ (.slice (some ⟨g, 0, none⟩) (s.ev.length + 1) cap)) (upd V 0 (.slice (some ⟨g, 0, none⟩) (s.ev.length + 1) cap)) := by
  have e1 : conL s 0 = s.ev.length := conL_ev s
  have e2 : conC s 0 = evs (s.ev) := conC_ev s
  have t1 : ety 82 0 = 60 := by unfold ety; first | rfl | (rw [if_neg (by omega), if_pos (by omega)]) | (rw [if_neg (by omega), if_neg (by omega), if_pos (by omega)])
  have t2 : esz 0 = 12 := by unfold esz; first | rfl | (rw [if_neg (by omega), if_pos (by omega)]) | (rw [if_neg (by omega), if_neg (by omega), if_pos (by omega)])
  obtain ⟨hB, hF, hS⟩ := h.appended (j := 0) (g := g) (cap := cap) (H := H) (m := 1) (news := x.cells) hl (by omega) (by rw [e1, e2, t1, t2]; exact hown) hg hat hH
  rw [e1, e2] at hB
  rw [e1] at hS
  obtain ⟨c1, c2⟩ := con_ev s x
  have hb : E.bg < E.base := by obtain ⟨l1, l2, l3, l4, l5, l6, l7, l8, l9, l10, l11, l12, l13, l14, l15, l16, _⟩ := hl; omega
  exact ⟨⟨(hB.congr c1 c2).setCell hb _, hF.st_got hl _⟩, hS.trans (Step.set (.inr (.inr (.inr (.inr (.inr (.inr (.inr rfl))))))) _)⟩

theorem con_rd (s : St) (t : Nat) (ht : t < 3) (x : Nat) : (∀ j, j < 11 → upd (conL s) (1 + t) ((s.reads t).length + 1) j = conL { s with reads := upd s.reads t (s.reads t ++ [x]) } j) ∧ (∀ j, j < 11 → upd (conC s) (1 + t) (ints ((s.reads t)) ++ [.int .i64 (x : Int)]) j = conC { s with reads := upd s.reads t (s.reads t ++ [x]) } j) := by
  refine ⟨fun j hj => ?_, fun j hj => ?_⟩
  · by_cases e : j = (1 + t)
    · subst e
      rw [upd_same]
      rw [conL_rd _ ht]
      simp [upd_same]
    · rw [upd_other _ e]
      unfold conL
      by_cases a0 : j = 0
      · simp [a0]
      · by_cases a1 : j < 4
        · simp [a0, a1, upd, show ¬ j - 1 = t by omega]
        · by_cases a2 : j < 7
          · simp [a0, a1, a2]
          · by_cases a3 : j < 10
            · simp [a0, a1, a2, a3]
            · simp [a0, a1, a2, a3]
  · by_cases e : j = (1 + t)
    · subst e
      rw [upd_same]
      rw [conC_rd _ ht]
      simp [upd_same, ints_snoc]
    · rw [upd_other _ e]
      unfold conC
      by_cases a0 : j = 0
      · simp [a0]
      · by_cases a1 : j < 4
        · simp [a0, a1, upd, show ¬ j - 1 = t by omega]
        · by_cases a2 : j < 7
          · simp [a0, a1, a2]
          · by_cases a3 : j < 10
            · simp [a0, a1, a2, a3]
            · simp [a0, a1, a2, a3]

/-- Behind 'append' and the store of the new header. -/
theorem PM.push_rd {w w1 : World} {E : Env} {s : St} {V : Nat → Value} (hl : Lay E) (h : PM w E s V) (t : Nat) (ht : t < 3) (x : Nat) {g cap H : Nat}
    (hown : w1.ownsRow E.base 3 1 (.slice (some ⟨g, 0, none⟩) ((s.reads t).length + 1) cap) ((s.reads t).length + 1) (ints ((s.reads t)) ++ [.int .i64 (x : Int)])) (hg : w.grownBy w1 (V (1 + t)).ownBlock) (hat : (V (1 + t)).ownBlock = some g ∨ g = H) (hH : w.heap.size = H) :
    PM (w1.setCell ⟨E.brd, t, none⟩ (.slice (some ⟨g, 0, none⟩) ((s.reads t).length + 1) cap)) E { s with reads := upd s.reads t (s.reads t ++ [x]) } (upd V (1 + t) (.slice (some ⟨g, 0, none⟩) ((s.reads t).length + 1) cap)) ∧
    Step E w V (w1.setCell ⟨E.brd, t, none⟩ (.slice (some ⟨g, 0, none⟩) ((s.reads t).length + 1) cap)) (upd V (1 + t) (.slice (some ⟨g, 0, none⟩) ((s.reads t).length + 1) cap)) := by
  have e1 : conL s (1 + t) = (s.reads t).length := conL_rd s ht
  have e2 : conC s (1 + t) = ints ((s.reads t)) := conC_rd s ht
  have t1 : ety 82 (1 + t) = 3 := by unfold ety; first | rfl | (rw [if_neg (by omega), if_pos (by omega)]) | (rw [if_neg (by omega), if_neg (by omega), if_pos (by omega)])
  have t2 : esz (1 + t) = 1 := by unfold esz; first | rfl | (rw [if_neg (by omega), if_pos (by omega)]) | (rw [if_neg (by omega), if_neg (by omega), if_pos (by omega)])
  obtain ⟨hB, hF, hS⟩ := h.appended (j := (1 + t)) (g := g) (cap := cap) (H := H) (m := 1) (news := [.int .i64 (x : Int)]) hl (by omega) (by rw [e1, e2, t1, t2]; exact hown) hg hat hH
  rw [e1, e2] at hB
  rw [e1] at hS
  obtain ⟨c1, c2⟩ := con_rd s t ht x
  have hb : E.brd < E.base := by obtain ⟨l1, l2, l3, l4, l5, l6, l7, l8, l9, l10, l11, l12, l13, l14, l15, l16, _⟩ := hl; omega
  exact ⟨⟨(hB.congr c1 c2).setCell hb _, hF.st_rd hl t ht _⟩, hS.trans (Step.set (.inr (.inr (.inr (.inr (.inl rfl))))) _)⟩

theorem con_ws (s : St) (t : Nat) (ht : t < 3) (x : Nat) : (∀ j, j < 11 → upd (conL s) (4 + t) ((s.ws t).length + 1) j = conL { s with ws := upd s.ws t (s.ws t ++ [x]) } j) ∧ (∀ j, j < 11 → upd (conC s) (4 + t) (ints ((s.ws t)) ++ [.int .i64 (x : Int)]) j = conC { s with ws := upd s.ws t (s.ws t ++ [x]) } j) := by
  refine ⟨fun j hj => ?_, fun j hj => ?_⟩
  · by_cases e : j = (4 + t)
    · subst e
      rw [upd_same]
      rw [conL_ws _ ht]
      simp [upd_same]
    · rw [upd_other _ e]
      unfold conL
      by_cases a0 : j = 0
      · simp [a0]
      · by_cases a1 : j < 4
        · simp [a0, a1]
        · by_cases a2 : j < 7
          · simp [a0, a1, a2, upd, show ¬ j - 4 = t by omega]
          · by_cases a3 : j < 10
            · simp [a0, a1, a2, a3]
            · simp [a0, a1, a2, a3]
  · by_cases e : j = (4 + t)
    · subst e
      rw [upd_same]
      rw [conC_ws _ ht]
      simp [upd_same, ints_snoc]
    · rw [upd_other _ e]
      unfold conC
      by_cases a0 : j = 0
      · simp [a0]
      · by_cases a1 : j < 4
        · simp [a0, a1]
        · by_cases a2 : j < 7
          · simp [a0, a1, a2, upd, show ¬ j - 4 = t by omega]
          · by_cases a3 : j < 10
            · simp [a0, a1, a2, a3]
            · simp [a0, a1, a2, a3]

/-- Behind 'append' and the store of the new header. -/
theorem PM.push_ws {w w1 : World} {E : Env} {s : St} {V : Nat → Value} (hl : Lay E) (h : PM w E s V) (t : Nat) (ht : t < 3) (x : Nat) {g cap H : Nat}
    (hown : w1.ownsRow E.base 3 1 (.slice (some ⟨g, 0, none⟩) ((s.ws t).length + 1) cap) ((s.ws t).length + 1) (ints ((s.ws t)) ++ [.int .i64 (x : Int)])) (hg : w.grownBy w1 (V (4 + t)).ownBlock) (hat : (V (4 + t)).ownBlock = some g ∨ g = H) (hH : w.heap.size = H) :
    PM (w1.setCell ⟨E.bws, t, none⟩ (.slice (some ⟨g, 0, none⟩) ((s.ws t).length + 1) cap)) E { s with ws := upd s.ws t (s.ws t ++ [x]) } (upd V (4 + t) (.slice (some ⟨g, 0, none⟩) ((s.ws t).length + 1) cap)) ∧
    Step E w V (w1.setCell ⟨E.bws, t, none⟩ (.slice (some ⟨g, 0, none⟩) ((s.ws t).length + 1) cap)) (upd V (4 + t) (.slice (some ⟨g, 0, none⟩) ((s.ws t).length + 1) cap)) := by
  have e1 : conL s (4 + t) = (s.ws t).length := conL_ws s ht
  have e2 : conC s (4 + t) = ints ((s.ws t)) := conC_ws s ht
  have t1 : ety 82 (4 + t) = 3 := by unfold ety; first | rfl | (rw [if_neg (by omega), if_pos (by omega)]) | (rw [if_neg (by omega), if_neg (by omega), if_pos (by omega)])
  have t2 : esz (4 + t) = 1 := by unfold esz; first | rfl | (rw [if_neg (by omega), if_pos (by omega)]) | (rw [if_neg (by omega), if_neg (by omega), if_pos (by omega)])
  obtain ⟨hB, hF, hS⟩ := h.appended (j := (4 + t)) (g := g) (cap := cap) (H := H) (m := 1) (news := [.int .i64 (x : Int)]) hl (by omega) (by rw [e1, e2, t1, t2]; exact hown) hg hat hH
  rw [e1, e2] at hB
  rw [e1] at hS
  obtain ⟨c1, c2⟩ := con_ws s t ht x
  have hb : E.bws < E.base := by obtain ⟨l1, l2, l3, l4, l5, l6, l7, l8, l9, l10, l11, l12, l13, l14, l15, l16, _⟩ := hl; omega
  exact ⟨⟨(hB.congr c1 c2).setCell hb _, hF.st_ws hl t ht _⟩, hS.trans (Step.set (.inr (.inr (.inr (.inr (.inr (.inl rfl)))))) _)⟩

theorem con_wr (s : St) (t : Nat) (ht : t < 3) (x y : Nat) : (∀ j, j < 11 → upd (conL s) (7 + t) ((s.wr t).length + 1) j = conL { s with wr := upd s.wr t (s.wr t ++ [(x, y)]) } j) ∧ (∀ j, j < 11 → upd (conC s) (7 + t) (prs ((s.wr t)) ++ [.int .i64 (x : Int), .int .i64 (y : Int)]) j = conC { s with wr := upd s.wr t (s.wr t ++ [(x, y)]) } j) := by
  refine ⟨fun j hj => ?_, fun j hj => ?_⟩
  · by_cases e : j = (7 + t)
    · subst e
      rw [upd_same]
      rw [conL_wr _ ht]
      simp [upd_same]
    · rw [upd_other _ e]
      unfold conL
      by_cases a0 : j = 0
      · simp [a0]
      · by_cases a1 : j < 4
        · simp [a0, a1]
        · by_cases a2 : j < 7
          · simp [a0, a1, a2]
          · by_cases a3 : j < 10
            · simp [a0, a1, a2, a3, upd, show ¬ j - 7 = t by omega]
            · simp [a0, a1, a2, a3]
  · by_cases e : j = (7 + t)
    · subst e
      rw [upd_same]
      rw [conC_wr _ ht]
      simp [upd_same, prs_snoc]
    · rw [upd_other _ e]
      unfold conC
      by_cases a0 : j = 0
      · simp [a0]
      · by_cases a1 : j < 4
        · simp [a0, a1]
        · by_cases a2 : j < 7
          · simp [a0, a1, a2]
          · by_cases a3 : j < 10
            · simp [a0, a1, a2, a3, upd, show ¬ j - 7 = t by omega]
            · simp [a0, a1, a2, a3]

/-- Behind 'append' and the store of the new header. -/
theorem PM.push_wr {w w1 : World} {E : Env} {s : St} {V : Nat → Value} (hl : Lay E) (h : PM w E s V) (t : Nat) (ht : t < 3) (x y : Nat) {g cap H : Nat}
    (hown : w1.ownsRow E.base 82 2 (.slice (some ⟨g, 0, none⟩) ((s.wr t).length + 1) cap) ((s.wr t).length + 1) (prs ((s.wr t)) ++ [.int .i64 (x : Int), .int .i64 (y : Int)])) (hg : w.grownBy w1 (V (7 + t)).ownBlock) (hat : (V (7 + t)).ownBlock = some g ∨ g = H) (hH : w.heap.size = H) :
    PM (w1.setCell ⟨E.bwr, t, none⟩ (.slice (some ⟨g, 0, none⟩) ((s.wr t).length + 1) cap)) E { s with wr := upd s.wr t (s.wr t ++ [(x, y)]) } (upd V (7 + t) (.slice (some ⟨g, 0, none⟩) ((s.wr t).length + 1) cap)) ∧
    Step E w V (w1.setCell ⟨E.bwr, t, none⟩ (.slice (some ⟨g, 0, none⟩) ((s.wr t).length + 1) cap)) (upd V (7 + t) (.slice (some ⟨g, 0, none⟩) ((s.wr t).length + 1) cap)) := by
  have e1 : conL s (7 + t) = (s.wr t).length := conL_wr s ht
  have e2 : conC s (7 + t) = prs ((s.wr t)) := conC_wr s ht
  have t1 : ety 82 (7 + t) = 82 := by unfold ety; first | rfl | (rw [if_neg (by omega), if_pos (by omega)]) | (rw [if_neg (by omega), if_neg (by omega), if_pos (by omega)])
  have t2 : esz (7 + t) = 2 := by unfold esz; first | rfl | (rw [if_neg (by omega), if_pos (by omega)]) | (rw [if_neg (by omega), if_neg (by omega), if_pos (by omega)])
  obtain ⟨hB, hF, hS⟩ := h.appended (j := (7 + t)) (g := g) (cap := cap) (H := H) (m := 1) (news := [.int .i64 (x : Int), .int .i64 (y : Int)]) hl (by omega) (by rw [e1, e2, t1, t2]; exact hown) hg hat hH
  rw [e1, e2] at hB
  rw [e1] at hS
  obtain ⟨c1, c2⟩ := con_wr s t ht x y
  have hb : E.bwr < E.base := by obtain ⟨l1, l2, l3, l4, l5, l6, l7, l8, l9, l10, l11, l12, l13, l14, l15, l16, _⟩ := hl; omega
  exact ⟨⟨(hB.congr c1 c2).setCell hb _, hF.st_wr hl t ht _⟩, hS.trans (Step.set (.inr (.inr (.inr (.inr (.inr (.inr (.inl rfl))))))) _)⟩

theorem con_vs (s : St) (x : Nat) : (∀ j, j < 11 → upd (conL s) 10 (s.victims.length + 1) j = conL { s with victims := s.victims ++ [x] } j) ∧ (∀ j, j < 11 → upd (conC s) 10 (ints (s.victims) ++ [.int .i64 (x : Int)]) j = conC { s with victims := s.victims ++ [x] } j) := by
  refine ⟨fun j hj => ?_, fun j hj => ?_⟩
  · by_cases e : j = 10
    · subst e
      rw [upd_same]
      simp [conL]
    · rw [upd_other _ e]
      unfold conL
      by_cases a0 : j = 0
      · simp [a0]
      · by_cases a1 : j < 4
        · simp [a0, a1]
        · by_cases a2 : j < 7
          · simp [a0, a1, a2]
          · simp [a0, a1, a2, show j < 10 by omega]
  · by_cases e : j = 10
    · subst e
      rw [upd_same]
      simp [conC, ints_snoc]
    · rw [upd_other _ e]
      unfold conC
      by_cases a0 : j = 0
      · simp [a0]
      · by_cases a1 : j < 4
        · simp [a0, a1]
        · by_cases a2 : j < 7
          · simp [a0, a1, a2]
          · simp [a0, a1, a2, show j < 10 by omega]

/-- Behind 'append' and the store of the new header. -/
theorem PM.push_vs {w w1 : World} {E : Env} {s : St} {V : Nat → Value} (hl : Lay E) (h : PM w E s V) (x : Nat) {g cap H : Nat}
    (hown : w1.ownsRow E.base 3 1 (.slice (some ⟨g, 0, none⟩) (s.victims.length + 1) cap) (s.victims.length + 1) (ints (s.victims) ++ [.int .i64 (x : Int)])) (hg : w.grownBy w1 (V 10).ownBlock) (hat : (V 10).ownBlock = some g ∨ g = H) (hH : w.heap.size = H) :
    PM (w1.setCell ⟨E.br, 12, none⟩ (.slice (some ⟨g, 0, none⟩) (s.victims.length + 1) cap)) E { s with victims := s.victims ++ [x] } (upd V 10 (.slice (some ⟨g, 0, none⟩) (s.victims.length + 1) cap)) ∧
    Step E w V (w1.setCell ⟨E.br, 12, none⟩ (.slice (some ⟨g, 0, none⟩) (s.victims.length + 1) cap)) (upd V 10 (.slice (some ⟨g, 0, none⟩) (s.victims.length + 1) cap)) := by
  have e1 : conL s 10 = s.victims.length := conL_vi s
  have e2 : conC s 10 = ints (s.victims) := conC_vi s
  have t1 : ety 82 10 = 3 := by unfold ety; first | rfl | (rw [if_neg (by omega), if_pos (by omega)]) | (rw [if_neg (by omega), if_neg (by omega), if_pos (by omega)])
  have t2 : esz 10 = 1 := by unfold esz; first | rfl | (rw [if_neg (by omega), if_pos (by omega)]) | (rw [if_neg (by omega), if_neg (by omega), if_pos (by omega)])
  obtain ⟨hB, hF, hS⟩ := h.appended (j := 10) (g := g) (cap := cap) (H := H) (m := 1) (news := [.int .i64 (x : Int)]) hl (by omega) (by rw [e1, e2, t1, t2]; exact hown) hg hat hH
  rw [e1, e2] at hB
  rw [e1] at hS
  obtain ⟨c1, c2⟩ := con_vs s x
  have hb : E.br < E.base := by obtain ⟨l1, l2, l3, l4, l5, l6, l7, l8, l9, l10, l11, l12, l13, l14, l15, l16, _⟩ := hl; omega
  exact ⟨⟨(hB.congr c1 c2).setCell hb _, hF.st_vs hl _⟩, hS.trans (Step.set (.inl rfl) _)⟩


/-- A flag 'ended'. -/
theorem PM.set_en {w : World} {E : Env} {s : St} {V : Nat → Value} (hl : Lay E) (h : PM w E s V) (t : Nat) (x : Bool) : PM (w.setCell ⟨E.be, t, none⟩ (.bool x)) E { s with ended := upd s.ended t x } V ∧ Step E w V (w.setCell ⟨E.be, t, none⟩ (.bool x)) V := by
  have hb : E.be < E.base := by obtain ⟨l1, l2, l3, l4, l5, l6, l7, l8, l9, l10, l11, l12, l13, l14, l15, l16, _⟩ := hl; omega
  exact ⟨⟨(h.bank.setCell hb _).congr (fun _ _ => rfl) (fun _ _ => rfl), h.fix.st_en hl t x⟩, Step.set (.inr (.inl rfl)) _⟩

/-- A flag 'victim'. -/
theorem PM.set_vi {w : World} {E : Env} {s : St} {V : Nat → Value} (hl : Lay E) (h : PM w E s V) (t : Nat) (x : Bool) : PM (w.setCell ⟨E.bv, t, none⟩ (.bool x)) E { s with victim := upd s.victim t x } V ∧ Step E w V (w.setCell ⟨E.bv, t, none⟩ (.bool x)) V := by
  have hb : E.bv < E.base := by obtain ⟨l1, l2, l3, l4, l5, l6, l7, l8, l9, l10, l11, l12, l13, l14, l15, l16, _⟩ := hl; omega
  exact ⟨⟨(h.bank.setCell hb _).congr (fun _ _ => rfl) (fun _ _ => rfl), h.fix.st_vi hl t x⟩, Step.set (.inr (.inr (.inl rfl))) _⟩

/-- A 'began'. -/
theorem PM.set_bg {w : World} {E : Env} {s : St} {V : Nat → Value} (hl : Lay E) (h : PM w E s V) (t : Nat) (x : Int) : PM (w.setCell ⟨E.bb, t, none⟩ (.int .i64 x)) E { s with began := upd s.began t x } V ∧ Step E w V (w.setCell ⟨E.bb, t, none⟩ (.int .i64 x)) V := by
  have hb : E.bb < E.base := by obtain ⟨l1, l2, l3, l4, l5, l6, l7, l8, l9, l10, l11, l12, l13, l14, l15, l16, _⟩ := hl; omega
  exact ⟨⟨(h.bank.setCell hb _).congr (fun _ _ => rfl) (fun _ _ => rfl), h.fix.st_bg hl t x⟩, Step.set (.inr (.inr (.inr (.inl rfl)))) _⟩

/-- The count of commits. -/
theorem PM.set_cm {w : World} {E : Env} {s : St} {V : Nat → Value} (hl : Lay E) (h : PM w E s V) (x : Nat) : PM (w.setCell ⟨E.br, 15, none⟩ (.int .i64 (x : Int))) E { s with commits := x } V ∧ Step E w V (w.setCell ⟨E.br, 15, none⟩ (.int .i64 (x : Int))) V := by
  have hb : E.br < E.base := by obtain ⟨l1, l2, l3, l4, l5, l6, l7, l8, l9, l10, l11, l12, l13, l14, l15, l16, _⟩ := hl; omega
  exact ⟨⟨(h.bank.setCell hb _).congr (fun _ _ => rfl) (fun _ _ => rfl), h.fix.st_cm hl x⟩, Step.set (.inl rfl) _⟩

/-- 'stopped' stays false. -/
theorem PM.set_stop {w : World} {E : Env} {s : St} {V : Nat → Value} (hl : Lay E) (h : PM w E s V)  : PM (w.setCell ⟨E.br, 9, none⟩ (.bool false)) E s V ∧ Step E w V (w.setCell ⟨E.br, 9, none⟩ (.bool false)) V := by
  have hb : E.br < E.base := by obtain ⟨l1, l2, l3, l4, l5, l6, l7, l8, l9, l10, l11, l12, l13, l14, l15, l16, _⟩ := hl; omega
  exact ⟨⟨(h.bank.setCell hb _).congr (fun _ _ => rfl) (fun _ _ => rfl), h.fix.st_stop hl ⟩, Step.set (.inl rfl) _⟩

theorem con_nil_rd (s : St) (t : Nat) (ht : t < 3) : (∀ j, j < 11 → upd (conL s) (1 + t) 0 j = conL { s with reads := upd s.reads t [] } j) ∧ (∀ j, j < 11 → upd (conC s) (1 + t) [] j = conC { s with reads := upd s.reads t [] } j) := by
  refine ⟨fun j hj => ?_, fun j hj => ?_⟩
  · by_cases e : j = 1 + t
    · subst e
      rw [upd_same, conL_rd _ ht]
      simp [upd_same]
    · rw [upd_other _ e]
      unfold conL
      by_cases a0 : j = 0
      · simp [a0]
      · by_cases a1 : j < 4
        · simp [a0, a1, upd, show ¬ j - 1 = t by omega]
        · by_cases a2 : j < 7
          · simp [a0, a1, a2]
          · by_cases a3 : j < 10
            · simp [a0, a1, a2, a3]
            · simp [a0, a1, a2, a3]
  · by_cases e : j = 1 + t
    · subst e
      rw [upd_same, conC_rd _ ht]
      simp [upd_same, ints]
    · rw [upd_other _ e]
      unfold conC
      by_cases a0 : j = 0
      · simp [a0]
      · by_cases a1 : j < 4
        · simp [a0, a1, upd, show ¬ j - 1 = t by omega]
        · by_cases a2 : j < 7
          · simp [a0, a1, a2]
          · by_cases a3 : j < 10
            · simp [a0, a1, a2, a3]
            · simp [a0, a1, a2, a3]

/-- A header is made nil. -/
theorem PM.nil_rd {w : World} {E : Env} {s : St} {V : Nat → Value} (hl : Lay E) (h : PM w E s V) (t : Nat) (ht : t < 3) :
    PM (w.setCell ⟨E.brd, t, none⟩ (.slice none 0 0)) E { s with reads := upd s.reads t [] } (upd V (1 + t) (.slice none 0 0)) ∧ Step E w V (w.setCell ⟨E.brd, t, none⟩ (.slice none 0 0)) (upd V (1 + t) (.slice none 0 0)) := by
  have hb : E.brd < E.base := by obtain ⟨l1, l2, l3, l4, l5, l6, l7, l8, l9, l10, l11, l12, l13, l14, l15, l16, _⟩ := hl; omega
  obtain ⟨c1, c2⟩ := con_nil_rd s t ht
  exact ⟨⟨((h.bank.nil (1 + t)).congr c1 c2).setCell hb _, h.fix.st_rd hl t ht _⟩, ⟨Kept.setCell (.inl (.inr (.inr (.inr (.inr (.inl rfl)))))) _, fun b hf => .inl (foot_nil hf)⟩⟩

theorem con_nil_ws (s : St) (t : Nat) (ht : t < 3) : (∀ j, j < 11 → upd (conL s) (4 + t) 0 j = conL { s with ws := upd s.ws t [] } j) ∧ (∀ j, j < 11 → upd (conC s) (4 + t) [] j = conC { s with ws := upd s.ws t [] } j) := by
  refine ⟨fun j hj => ?_, fun j hj => ?_⟩
  · by_cases e : j = 4 + t
    · subst e
      rw [upd_same, conL_ws _ ht]
      simp [upd_same]
    · rw [upd_other _ e]
      unfold conL
      by_cases a0 : j = 0
      · simp [a0]
      · by_cases a1 : j < 4
        · simp [a0, a1]
        · by_cases a2 : j < 7
          · simp [a0, a1, a2, upd, show ¬ j - 4 = t by omega]
          · by_cases a3 : j < 10
            · simp [a0, a1, a2, a3]
            · simp [a0, a1, a2, a3]
  · by_cases e : j = 4 + t
    · subst e
      rw [upd_same, conC_ws _ ht]
      simp [upd_same, ints]
    · rw [upd_other _ e]
      unfold conC
      by_cases a0 : j = 0
      · simp [a0]
      · by_cases a1 : j < 4
        · simp [a0, a1]
        · by_cases a2 : j < 7
          · simp [a0, a1, a2, upd, show ¬ j - 4 = t by omega]
          · by_cases a3 : j < 10
            · simp [a0, a1, a2, a3]
            · simp [a0, a1, a2, a3]

/-- A header is made nil. -/
theorem PM.nil_ws {w : World} {E : Env} {s : St} {V : Nat → Value} (hl : Lay E) (h : PM w E s V) (t : Nat) (ht : t < 3) :
    PM (w.setCell ⟨E.bws, t, none⟩ (.slice none 0 0)) E { s with ws := upd s.ws t [] } (upd V (4 + t) (.slice none 0 0)) ∧ Step E w V (w.setCell ⟨E.bws, t, none⟩ (.slice none 0 0)) (upd V (4 + t) (.slice none 0 0)) := by
  have hb : E.bws < E.base := by obtain ⟨l1, l2, l3, l4, l5, l6, l7, l8, l9, l10, l11, l12, l13, l14, l15, l16, _⟩ := hl; omega
  obtain ⟨c1, c2⟩ := con_nil_ws s t ht
  exact ⟨⟨((h.bank.nil (4 + t)).congr c1 c2).setCell hb _, h.fix.st_ws hl t ht _⟩, ⟨Kept.setCell (.inl (.inr (.inr (.inr (.inr (.inr (.inl rfl))))))) _, fun b hf => .inl (foot_nil hf)⟩⟩
end Go.Proofs.Ybulkiec
