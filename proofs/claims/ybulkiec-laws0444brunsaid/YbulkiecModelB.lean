/-
  LawS0444BRun: the model's steps.
-/
import Derived.Test.YbulkiecModel
namespace Go.Proofs.Ybulkiec
open Go.ChangeShapes Go.WideShapes Go.ChangeAt Go.RowKit
set_option linter.unusedVariables false

theorem MM.push_ev {w w1 : World} {E : Env} {F : MEnv} {m : St} {U : Nat → Value} (hl : MLay E F) (h : MM w F m U) (x : Ev) {g cap H : Nat}
    (hown : w1.ownsRow F.base 60 12 (.slice (some ⟨g, 0, none⟩) (m.ev.length + 1) cap) (m.ev.length + 1) (evs (m.ev) ++ x.cells)) (hg : w.grownBy w1 (U 0).ownBlock) (hat : (U 0).ownBlock = some g ∨ g = H) (hH : w.heap.size = H) :
    MM w1 F { m with ev := m.ev ++ [x] } (upd U 0 (.slice (some ⟨g, 0, none⟩) (m.ev.length + 1) cap)) ∧ MStep F w U w1 (upd U 0 (.slice (some ⟨g, 0, none⟩) (m.ev.length + 1) cap)) := by
  obtain ⟨a, b, c⟩ := h.appended hl (j := 0) (k := 1) (by decide) hown hg hat hH
  obtain ⟨c1, c2⟩ := con_ev m x
  exact ⟨⟨a.congr c1 c2, b.congr rfl rfl rfl (fun i h1 h2 => upd_other _ (by omega) _)⟩, c⟩

theorem MM.push_vs {w w1 : World} {E : Env} {F : MEnv} {m : St} {U : Nat → Value} (hl : MLay E F) (h : MM w F m U) (x : Nat) {g cap H : Nat}
    (hown : w1.ownsRow F.base 3 1 (.slice (some ⟨g, 0, none⟩) (m.victims.length + 1) cap) (m.victims.length + 1) (ints (m.victims) ++ [.int .i64 (x : Int)])) (hg : w.grownBy w1 (U 10).ownBlock) (hat : (U 10).ownBlock = some g ∨ g = H) (hH : w.heap.size = H) :
    MM w1 F { m with victims := m.victims ++ [x] } (upd U 10 (.slice (some ⟨g, 0, none⟩) (m.victims.length + 1) cap)) ∧ MStep F w U w1 (upd U 10 (.slice (some ⟨g, 0, none⟩) (m.victims.length + 1) cap)) := by
  obtain ⟨a, b, c⟩ := h.appended hl (j := 10) (k := 1) (by decide) hown hg hat hH
  obtain ⟨c1, c2⟩ := con_vs m x
  exact ⟨⟨a.congr c1 c2, b.congr rfl rfl rfl (fun i h1 h2 => upd_other _ (by omega) _)⟩, c⟩

theorem MFix.set_rd {w : World} {E : Env} {F : MEnv} {m : St} {U : Nat → Value} (hl : MLay E F) (h : MFix w F m U) (t : Nat) (ht : t < 3) (v : Value) : MFix (w.setCell ⟨F.mr, t, none⟩ v) F m (upd U (1 + t) v) := by
  obtain ⟨k0, k1, k2, k3, k4, k5, k6⟩ := hl
  have hk : Kept (fun b => b = F.mr) w (w.setCell ⟨F.mr, t, none⟩ v) := Kept.setCell (p := fun b => b = F.mr) rfl _
  refine ⟨rowIs_keep h.bg hk (by show ¬ _ = _; omega), ?_, ?_, ?_, rowIs_keep h.vi hk (by show ¬ _ = _; omega), rowIs_keep h.en hk (by show ¬ _ = _; omega), Nat.le_trans h.size hk.size⟩
  · refine (h.rd.set t _).congr (fun i _ => ?_)
    show (if i = t then v else U (1 + i)) = upd U (1 + t) v (1 + i)
    by_cases e : i = t
    · subst e; rw [upd_same, if_pos rfl]
    · rw [if_neg e, upd_other _ (by omega)]
  · exact (rowIs_keep h.ws hk (by show ¬ _ = _; omega)).congr (fun i hi => by show U (4 + i) = upd U (1 + t) v (4 + i); rw [upd_other _ (by omega)])
  · exact (rowIs_keep h.wr hk (by show ¬ _ = _; omega)).congr (fun i hi => by show U (7 + i) = upd U (1 + t) v (7 + i); rw [upd_other _ (by omega)])

theorem MM.push_rd {w w1 : World} {E : Env} {F : MEnv} {m : St} {U : Nat → Value} (hl : MLay E F) (h : MM w F m U) (t : Nat) (ht : t < 3) (x : Nat) {g cap H : Nat}
    (hown : w1.ownsRow F.base 3 1 (.slice (some ⟨g, 0, none⟩) ((m.reads t).length + 1) cap) ((m.reads t).length + 1) (ints (m.reads t) ++ [.int .i64 (x : Int)])) (hg : w.grownBy w1 (U (1 + t)).ownBlock) (hat : (U (1 + t)).ownBlock = some g ∨ g = H) (hH : w.heap.size = H) :
    MM (w1.setCell ⟨F.mr, t, none⟩ (.slice (some ⟨g, 0, none⟩) ((m.reads t).length + 1) cap)) F { m with reads := upd m.reads t (m.reads t ++ [x]) } (upd U (1 + t) (.slice (some ⟨g, 0, none⟩) ((m.reads t).length + 1) cap)) ∧
    MStep F w U (w1.setCell ⟨F.mr, t, none⟩ (.slice (some ⟨g, 0, none⟩) ((m.reads t).length + 1) cap)) (upd U (1 + t) (.slice (some ⟨g, 0, none⟩) ((m.reads t).length + 1) cap)) := by
  have e1 : conL m (1 + t) = (m.reads t).length := conL_rd m ht
  have e2 : conC m (1 + t) = ints (m.reads t) := conC_rd m ht
  have e3 : ety 68 (1 + t) = 3 := by unfold ety; rw [if_neg (by omega), if_pos (by omega)]
  have e4 : esz (1 + t) = 1 := by unfold esz; rw [if_neg (by omega), if_pos (by omega)]
  obtain ⟨a, b, c⟩ := h.appended hl (j := 1 + t) (k := 1) (by omega) (by rw [e1, e2, e3, e4]; exact hown) hg hat hH
  rw [e1, e2] at a
  rw [e1] at c
  obtain ⟨c1, c2⟩ := con_rd m t ht x
  have hb : F.mr < F.base := by obtain ⟨k0, k1, k2, k3, k4, k5, k6⟩ := hl; omega
  exact ⟨⟨(a.setCell hb _).congr c1 c2, (b.set_rd hl t ht _).congr rfl rfl rfl (fun _ _ _ => rfl)⟩, c.trans ⟨Kept.setCell (.inl (.inr (.inl rfl))) _, fun _ h => .inl h⟩⟩

theorem MM.nil_rd {w : World} {E : Env} {F : MEnv} {m : St} {U : Nat → Value} (hl : MLay E F) (h : MM w F m U) (t : Nat) (ht : t < 3) :
    MM (w.setCell ⟨F.mr, t, none⟩ (.slice none 0 0)) F { m with reads := upd m.reads t [] } (upd U (1 + t) (.slice none 0 0)) ∧ MStep F w U (w.setCell ⟨F.mr, t, none⟩ (.slice none 0 0)) (upd U (1 + t) (.slice none 0 0)) := by
  have hb : F.mr < F.base := by obtain ⟨k0, k1, k2, k3, k4, k5, k6⟩ := hl; omega
  obtain ⟨c1, c2⟩ := con_nil_rd m t ht
  refine ⟨⟨((h.bank.nil (1 + t)).congr c1 c2).setCell hb _, (h.fix.set_rd hl t ht _).congr rfl rfl rfl (fun _ _ _ => rfl)⟩, ⟨Kept.setCell (.inl (.inr (.inl rfl))) _, fun b hf => .inl ?_⟩⟩
  rcases hf with hf | ⟨i, hi, hf⟩
  · exact .inl hf
  · by_cases e : i = 1 + t
    · subst e; rw [upd_same] at hf; cases hf
    · rw [upd_other _ e] at hf; exact .inr ⟨i, hi, hf⟩

theorem MFix.set_ws {w : World} {E : Env} {F : MEnv} {m : St} {U : Nat → Value} (hl : MLay E F) (h : MFix w F m U) (t : Nat) (ht : t < 3) (v : Value) : MFix (w.setCell ⟨F.ms, t, none⟩ v) F m (upd U (4 + t) v) := by
  obtain ⟨k0, k1, k2, k3, k4, k5, k6⟩ := hl
  have hk : Kept (fun b => b = F.ms) w (w.setCell ⟨F.ms, t, none⟩ v) := Kept.setCell (p := fun b => b = F.ms) rfl _
  refine ⟨rowIs_keep h.bg hk (by show ¬ _ = _; omega), ?_, ?_, ?_, rowIs_keep h.vi hk (by show ¬ _ = _; omega), rowIs_keep h.en hk (by show ¬ _ = _; omega), Nat.le_trans h.size hk.size⟩
  · exact (rowIs_keep h.rd hk (by show ¬ _ = _; omega)).congr (fun i hi => by show U (1 + i) = upd U (4 + t) v (1 + i); rw [upd_other _ (by omega)])
  · refine (h.ws.set t _).congr (fun i _ => ?_)
    show (if i = t then v else U (4 + i)) = upd U (4 + t) v (4 + i)
    by_cases e : i = t
    · subst e; rw [upd_same, if_pos rfl]
    · rw [if_neg e, upd_other _ (by omega)]
  · exact (rowIs_keep h.wr hk (by show ¬ _ = _; omega)).congr (fun i hi => by show U (7 + i) = upd U (4 + t) v (7 + i); rw [upd_other _ (by omega)])

theorem MM.push_ws {w w1 : World} {E : Env} {F : MEnv} {m : St} {U : Nat → Value} (hl : MLay E F) (h : MM w F m U) (t : Nat) (ht : t < 3) (x : Nat) {g cap H : Nat}
    (hown : w1.ownsRow F.base 3 1 (.slice (some ⟨g, 0, none⟩) ((m.ws t).length + 1) cap) ((m.ws t).length + 1) (ints (m.ws t) ++ [.int .i64 (x : Int)])) (hg : w.grownBy w1 (U (4 + t)).ownBlock) (hat : (U (4 + t)).ownBlock = some g ∨ g = H) (hH : w.heap.size = H) :
    MM (w1.setCell ⟨F.ms, t, none⟩ (.slice (some ⟨g, 0, none⟩) ((m.ws t).length + 1) cap)) F { m with ws := upd m.ws t (m.ws t ++ [x]) } (upd U (4 + t) (.slice (some ⟨g, 0, none⟩) ((m.ws t).length + 1) cap)) ∧
    MStep F w U (w1.setCell ⟨F.ms, t, none⟩ (.slice (some ⟨g, 0, none⟩) ((m.ws t).length + 1) cap)) (upd U (4 + t) (.slice (some ⟨g, 0, none⟩) ((m.ws t).length + 1) cap)) := by
  have e1 : conL m (4 + t) = (m.ws t).length := conL_ws m ht
  have e2 : conC m (4 + t) = ints (m.ws t) := conC_ws m ht
  have e3 : ety 68 (4 + t) = 3 := by unfold ety; rw [if_neg (by omega), if_pos (by omega)]
  have e4 : esz (4 + t) = 1 := by unfold esz; rw [if_neg (by omega), if_pos (by omega)]
  obtain ⟨a, b, c⟩ := h.appended hl (j := 4 + t) (k := 1) (by omega) (by rw [e1, e2, e3, e4]; exact hown) hg hat hH
  rw [e1, e2] at a
  rw [e1] at c
  obtain ⟨c1, c2⟩ := con_ws m t ht x
  have hb : F.ms < F.base := by obtain ⟨k0, k1, k2, k3, k4, k5, k6⟩ := hl; omega
  exact ⟨⟨(a.setCell hb _).congr c1 c2, (b.set_ws hl t ht _).congr rfl rfl rfl (fun _ _ _ => rfl)⟩, c.trans ⟨Kept.setCell (.inl (.inr (.inr (.inl rfl)))) _, fun _ h => .inl h⟩⟩

theorem MM.nil_ws {w : World} {E : Env} {F : MEnv} {m : St} {U : Nat → Value} (hl : MLay E F) (h : MM w F m U) (t : Nat) (ht : t < 3) :
    MM (w.setCell ⟨F.ms, t, none⟩ (.slice none 0 0)) F { m with ws := upd m.ws t [] } (upd U (4 + t) (.slice none 0 0)) ∧ MStep F w U (w.setCell ⟨F.ms, t, none⟩ (.slice none 0 0)) (upd U (4 + t) (.slice none 0 0)) := by
  have hb : F.ms < F.base := by obtain ⟨k0, k1, k2, k3, k4, k5, k6⟩ := hl; omega
  obtain ⟨c1, c2⟩ := con_nil_ws m t ht
  refine ⟨⟨((h.bank.nil (4 + t)).congr c1 c2).setCell hb _, (h.fix.set_ws hl t ht _).congr rfl rfl rfl (fun _ _ _ => rfl)⟩, ⟨Kept.setCell (.inl (.inr (.inr (.inl rfl)))) _, fun b hf => .inl ?_⟩⟩
  rcases hf with hf | ⟨i, hi, hf⟩
  · exact .inl hf
  · by_cases e : i = 4 + t
    · subst e; rw [upd_same] at hf; cases hf
    · rw [upd_other _ e] at hf; exact .inr ⟨i, hi, hf⟩

theorem MFix.set_wr {w : World} {E : Env} {F : MEnv} {m : St} {U : Nat → Value} (hl : MLay E F) (h : MFix w F m U) (t : Nat) (ht : t < 3) (v : Value) : MFix (w.setCell ⟨F.mw, t, none⟩ v) F m (upd U (7 + t) v) := by
  obtain ⟨k0, k1, k2, k3, k4, k5, k6⟩ := hl
  have hk : Kept (fun b => b = F.mw) w (w.setCell ⟨F.mw, t, none⟩ v) := Kept.setCell (p := fun b => b = F.mw) rfl _
  refine ⟨rowIs_keep h.bg hk (by show ¬ _ = _; omega), ?_, ?_, ?_, rowIs_keep h.vi hk (by show ¬ _ = _; omega), rowIs_keep h.en hk (by show ¬ _ = _; omega), Nat.le_trans h.size hk.size⟩
  · exact (rowIs_keep h.rd hk (by show ¬ _ = _; omega)).congr (fun i hi => by show U (1 + i) = upd U (7 + t) v (1 + i); rw [upd_other _ (by omega)])
  · exact (rowIs_keep h.ws hk (by show ¬ _ = _; omega)).congr (fun i hi => by show U (4 + i) = upd U (7 + t) v (4 + i); rw [upd_other _ (by omega)])
  · refine (h.wr.set t _).congr (fun i _ => ?_)
    show (if i = t then v else U (7 + i)) = upd U (7 + t) v (7 + i)
    by_cases e : i = t
    · subst e; rw [upd_same, if_pos rfl]
    · rw [if_neg e, upd_other _ (by omega)]

theorem MM.push_wr {w w1 : World} {E : Env} {F : MEnv} {m : St} {U : Nat → Value} (hl : MLay E F) (h : MM w F m U) (t : Nat) (ht : t < 3) (x y : Nat) {g cap H : Nat}
    (hown : w1.ownsRow F.base 68 2 (.slice (some ⟨g, 0, none⟩) ((m.wr t).length + 1) cap) ((m.wr t).length + 1) (prs (m.wr t) ++ [.int .i64 (x : Int), .int .i64 (y : Int)])) (hg : w.grownBy w1 (U (7 + t)).ownBlock) (hat : (U (7 + t)).ownBlock = some g ∨ g = H) (hH : w.heap.size = H) :
    MM (w1.setCell ⟨F.mw, t, none⟩ (.slice (some ⟨g, 0, none⟩) ((m.wr t).length + 1) cap)) F { m with wr := upd m.wr t (m.wr t ++ [(x, y)]) } (upd U (7 + t) (.slice (some ⟨g, 0, none⟩) ((m.wr t).length + 1) cap)) ∧
    MStep F w U (w1.setCell ⟨F.mw, t, none⟩ (.slice (some ⟨g, 0, none⟩) ((m.wr t).length + 1) cap)) (upd U (7 + t) (.slice (some ⟨g, 0, none⟩) ((m.wr t).length + 1) cap)) := by
  have e1 : conL m (7 + t) = (m.wr t).length := conL_wr m ht
  have e2 : conC m (7 + t) = prs (m.wr t) := conC_wr m ht
  have e3 : ety 68 (7 + t) = 68 := by unfold ety; rw [if_neg (by omega), if_neg (by omega), if_pos (by omega)]
  have e4 : esz (7 + t) = 2 := by unfold esz; rw [if_neg (by omega), if_neg (by omega), if_pos (by omega)]
  obtain ⟨a, b, c⟩ := h.appended hl (j := 7 + t) (k := 1) (by omega) (by rw [e1, e2, e3, e4]; exact hown) hg hat hH
  rw [e1, e2] at a
  rw [e1] at c
  obtain ⟨c1, c2⟩ := con_wr m t ht x y
  have hb : F.mw < F.base := by obtain ⟨k0, k1, k2, k3, k4, k5, k6⟩ := hl; omega
  exact ⟨⟨(a.setCell hb _).congr c1 c2, (b.set_wr hl t ht _).congr rfl rfl rfl (fun _ _ _ => rfl)⟩, c.trans ⟨Kept.setCell (.inl (.inr (.inr (.inr (.inl rfl))))) _, fun _ h => .inl h⟩⟩

theorem MM.set_bg {w : World} {E : Env} {F : MEnv} {m : St} {U : Nat → Value} (hl : MLay E F) (h : MM w F m U) (t : Nat) (x : Int) :
    MM (w.setCell ⟨F.mb, t, none⟩ (.int .i64 x)) F { m with began := upd m.began t x } U ∧ MStep F w U (w.setCell ⟨F.mb, t, none⟩ (.int .i64 x)) U := by
  have hb : F.mb < F.base := by obtain ⟨k0, k1, k2, k3, k4, k5, k6⟩ := hl; omega
  refine ⟨⟨(h.bank.setCell hb _).congr (fun _ _ => rfl) (fun _ _ => rfl), ?_⟩, MStep.set (.inl rfl) _⟩
  obtain ⟨k0, k1, k2, k3, k4, k5, k6⟩ := hl
  have hk : Kept (fun b => b = F.mb) w (w.setCell ⟨F.mb, t, none⟩ (.int .i64 x)) := Kept.setCell (p := fun b => b = F.mb) rfl _
  exact ⟨(h.fix.bg.set t _).congr (fun i _ => by unfold upd; by_cases e : i = t <;> simp [e]), rowIs_keep h.fix.rd hk (by show ¬ _ = _; omega), rowIs_keep h.fix.ws hk (by show ¬ _ = _; omega), rowIs_keep h.fix.wr hk (by show ¬ _ = _; omega), rowIs_keep h.fix.vi hk (by show ¬ _ = _; omega), rowIs_keep h.fix.en hk (by show ¬ _ = _; omega), Nat.le_trans h.fix.size hk.size⟩

theorem MM.set_vi {w : World} {E : Env} {F : MEnv} {m : St} {U : Nat → Value} (hl : MLay E F) (h : MM w F m U) (t : Nat) (x : Bool) :
    MM (w.setCell ⟨F.mv, t, none⟩ (.bool x)) F { m with victim := upd m.victim t x } U ∧ MStep F w U (w.setCell ⟨F.mv, t, none⟩ (.bool x)) U := by
  have hb : F.mv < F.base := by obtain ⟨k0, k1, k2, k3, k4, k5, k6⟩ := hl; omega
  refine ⟨⟨(h.bank.setCell hb _).congr (fun _ _ => rfl) (fun _ _ => rfl), ?_⟩, MStep.set (.inr (.inr (.inr (.inr (.inl rfl))))) _⟩
  obtain ⟨k0, k1, k2, k3, k4, k5, k6⟩ := hl
  have hk : Kept (fun b => b = F.mv) w (w.setCell ⟨F.mv, t, none⟩ (.bool x)) := Kept.setCell (p := fun b => b = F.mv) rfl _
  exact ⟨rowIs_keep h.fix.bg hk (by show ¬ _ = _; omega), rowIs_keep h.fix.rd hk (by show ¬ _ = _; omega), rowIs_keep h.fix.ws hk (by show ¬ _ = _; omega), rowIs_keep h.fix.wr hk (by show ¬ _ = _; omega), (h.fix.vi.set t _).congr (fun i _ => by unfold upd; by_cases e : i = t <;> simp [e]), rowIs_keep h.fix.en hk (by show ¬ _ = _; omega), Nat.le_trans h.fix.size hk.size⟩

theorem MM.set_en {w : World} {E : Env} {F : MEnv} {m : St} {U : Nat → Value} (hl : MLay E F) (h : MM w F m U) (t : Nat) (x : Bool) :
    MM (w.setCell ⟨F.me, t, none⟩ (.bool x)) F { m with ended := upd m.ended t x } U ∧ MStep F w U (w.setCell ⟨F.me, t, none⟩ (.bool x)) U := by
  have hb : F.me < F.base := by obtain ⟨k0, k1, k2, k3, k4, k5, k6⟩ := hl; omega
  refine ⟨⟨(h.bank.setCell hb _).congr (fun _ _ => rfl) (fun _ _ => rfl), ?_⟩, MStep.set (.inr (.inr (.inr (.inr (.inr rfl))))) _⟩
  obtain ⟨k0, k1, k2, k3, k4, k5, k6⟩ := hl
  have hk : Kept (fun b => b = F.me) w (w.setCell ⟨F.me, t, none⟩ (.bool x)) := Kept.setCell (p := fun b => b = F.me) rfl _
  exact ⟨rowIs_keep h.fix.bg hk (by show ¬ _ = _; omega), rowIs_keep h.fix.rd hk (by show ¬ _ = _; omega), rowIs_keep h.fix.ws hk (by show ¬ _ = _; omega), rowIs_keep h.fix.wr hk (by show ¬ _ = _; omega), rowIs_keep h.fix.vi hk (by show ¬ _ = _; omega), (h.fix.en.set t _).congr (fun i _ => by unfold upd; by_cases e : i = t <;> simp [e]), Nat.le_trans h.fix.size hk.size⟩

end Go.Proofs.Ybulkiec
