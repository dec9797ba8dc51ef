/-
  LawS0444BRun: (*optimistic).validate where the validation passes.
-/
import Derived.Test.YbulkiecValid
namespace Go.Proofs.Ybulkiec
open Go.ChangeShapes Go.WideShapes Go.ChangeAt Go.RowKit
set_option linter.unusedVariables false
attribute [local go_sem ↓] Go.wp_at_zero Go.wp_at_succ

theorem Yba.info82 : (Yba.prog.info? 82).map (fun i => (i.zero, i.size, i.bytes)) = some (some (.agg #[.int .i64 0, .int .i64 0]), 2, 16) := by kernel_rfl

/-! ### The plain part -/
/-- Whether a commit's entry is to be added. -/
def fits (l : List (Nat × Nat)) (c : Nat) : Bool := l.length == 0 || (l.getD (l.length - 1) (0, 0)).1 != c
def wput (l : List (Nat × Nat)) (c t : Nat) : List (Nat × Nat) := if fits l c then l ++ [(c, t)] else l
/-- One write of a workspace is applied. -/
def commitW (E : Env) (t : Nat) (s : St) (i : Nat) : St :=
  { s with wr := upd s.wr (E.ix i) (wput (s.wr (E.ix i)) s.commits t), ev := s.ev ++ [exEv ((i : Int) + 1) (E.nm (E.tx i)) 2 (E.it i)], ended := upd s.ended t false }

/-- The writers alone. -/
def wrSt (s : St) (x t : Nat) : St := { s with wr := upd s.wr x (wput (s.wr x) s.commits t) }

def commitK (E : Env) (t : Nat) (s : St) (k : Nat) : St := ((s.ws t).take k).foldl (commitW E t) { s with commits := s.commits + 1 }
/-- What a validation that passes makes of the state. -/
def goodSt (E : Env) (s : St) (t : Nat) (step : Int) : St :=
  let s2 := endSt (commitK E t s (s.ws t).length) t
  { s2 with ev := s2.ev ++ [exEv step (E.nm t) 3 ⟨#[]⟩], ended := upd s2.ended t true }

theorem wput_len (l : List (Nat × Nat)) (c t : Nat) : (wput l c t).length ≤ l.length + 1 := by
  unfold wput; split <;> simp

theorem commit_fold (E : Env) (t : Nat) (l : List Nat) : ∀ s : St, (l.foldl (commitW E t) s).commits = s.commits ∧ (l.foldl (commitW E t) s).ws = s.ws ∧ (l.foldl (commitW E t) s).ev.length = s.ev.length + l.length ∧ ∀ x, ((l.foldl (commitW E t) s).wr x).length ≤ (s.wr x).length + l.length := by
  induction l with
  | nil => intro s; exact ⟨rfl, rfl, rfl, fun x => Nat.le_refl _⟩
  | cons i r ih =>
    intro s
    obtain ⟨h1, h2, h3, h4⟩ := ih (commitW E t s i)
    refine ⟨h1, h2, ?_, fun x => ?_⟩
    · rw [List.foldl_cons, h3]; simp [commitW]; omega
    · have := h4 x
      rw [List.foldl_cons]
      have h5 : ((commitW E t s i).wr x).length ≤ (s.wr x).length + 1 := by
        show (upd s.wr (E.ix i) _ x).length ≤ _
        by_cases e : x = E.ix i
        · subst e; rw [upd_same]; exact wput_len _ _ _
        · rw [upd_other _ e]; omega
      simp only [List.length_cons]
      omega

theorem commitK_succ (E : Env) (t : Nat) (s : St) (k : Nat) (hk : k < (s.ws t).length) : commitK E t s (k + 1) = commitW E t (commitK E t s k) ((s.ws t).getD k 0) := by
  unfold commitK
  rw [List.take_add_one, List.getElem?_eq_getElem hk, List.foldl_append]
  simp [List.getD, hk]

theorem wrSt_fits {w : World} {E : Env} {s : St} {V : Nat → Value} {x t : Nat} (hf : fits (s.wr x) s.commits = true) (h : PM w E { s with wr := upd s.wr x (s.wr x ++ [(s.commits, t)]) } V) : PM w E (wrSt s x t) V := by
  unfold wrSt wput
  rw [hf]
  exact h
theorem wrSt_not {w : World} {E : Env} {s : St} {V : Nat → Value} {x t : Nat} (hf : fits (s.wr x) s.commits = false) (h : PM w E s V) : PM w E (wrSt s x t) V := by
  unfold wrSt wput
  rw [hf]
  have : upd s.wr x (s.wr x) = s.wr := by
    funext j
    by_cases e : j = x
    · subst e; exact upd_same _ _ _
    · exact upd_other _ e _
  simp only [Bool.false_eq_true, if_false]
  rw [this]
  exact h

theorem set_far {w : World} {b o b' o' : Nat} {u v : Value} (h : w.cell? ⟨b, o, none⟩ = some v) (hn : b ≠ b') : (w.setCell ⟨b', o', none⟩ u).cell? ⟨b, o, none⟩ = some v :=
  (Kept.setCell (p := fun x => x = b') rfl u).cell h hn

theorem PM.own_wr {w : World} {E : Env} {s : St} {V : Nat → Value} (h : PM w E s V) {x : Nat} (hx : x < 3) : w.ownsRow E.base 82 2 (V (7 + x)) (s.wr x).length (prs (s.wr x)) := by
  have := h.bank.own (7 + x) (by omega)
  rw [conL_wr s hx, conC_wr s hx] at this
  unfold ety esz at this
  rw [if_neg (by omega), if_neg (by omega), if_pos (by omega), if_neg (by omega), if_neg (by omega), if_pos (by omega)] at this
  exact this

theorem after_wr {wr wX w2 : World} {E : Env} {s : St} {V : Nat → Value} {x c t g cap H : Nat} {v : Value} (hl : Lay E) (h : PM wr E s V) (hB : Below wr.heap.size wr wX) (hv : V (7 + x) = v) (hx : x < 3)
    (hown : w2.ownsRow E.base 82 2 (.slice (some ⟨g, 0, none⟩) ((s.wr x).length + 1) cap) ((s.wr x).length + 1) (prs (s.wr x) ++ [.int .i64 (c : Int), .int .i64 (t : Int)])) (hg : wX.grownBy w2 v.ownBlock) (hat : v.ownBlock = some g ∨ g = H) (hH : wX.heap.size = H) :
    (PM (w2.setCell ⟨E.bwr, x, none⟩ (.slice (some ⟨g, 0, none⟩) ((s.wr x).length + 1) cap)) E { s with wr := upd s.wr x (s.wr x ++ [(c, t)]) } (upd V (7 + x) (.slice (some ⟨g, 0, none⟩) ((s.wr x).length + 1) cap)) ∧
      Step E wr V (w2.setCell ⟨E.bwr, x, none⟩ (.slice (some ⟨g, 0, none⟩) ((s.wr x).length + 1) cap)) (upd V (7 + x) (.slice (some ⟨g, 0, none⟩) ((s.wr x).length + 1) cap))) ∧
      w2.cell? ⟨E.br, 19, none⟩ = some (.slice (some ⟨E.bwr, 0, none⟩) 3 3) ∧ w2.cell? ⟨E.br, 15, none⟩ = some (.int .i64 (s.commits : Int)) ∧ w2.cell? ⟨E.bwr, x, none⟩ = some v ∧ w2.frozen? ⟨E.bwr, x, none⟩ = false := by
  have hX := h.below hl hB
  have hlt : ∀ k, v.ownBlock = some k → E.base ≤ k := fun k e => ((hX.own_wr hx).lt k (by rw [hv]; exact e)).1
  have hk : Kept (fun b => E.base ≤ b) wX w2 := Kept.grown hg hlt
  have hbr : E.br < E.base := by obtain ⟨l1, l2, l3, l4, l5, l6, l7, l8, l9, l10, l11, l12, l13, l14, l15, l16, _⟩ := hl; omega
  have hbw : E.bwr < E.base := by obtain ⟨l1, l2, l3, l4, l5, l6, l7, l8, l9, l10, l11, l12, l13, l14, l15, l16, _⟩ := hl; omega
  rw [← hv] at hg hat
  obtain ⟨p, q⟩ := hX.push_wr hl x hx c t hown hg hat hH
  refine ⟨⟨p, (Step.of_below hB).trans q⟩, hk.cell (hX.fix.r.cell (by omega)) (by omega), hk.cell (hX.fix.r.cell (by omega)) (by omega), ?_, ?_⟩
  · rw [← hv]; exact hk.cell (hX.fix.wr.cell hx) (by omega)
  · rw [hk.frozen (by have := hX.fix.size; omega) (by omega)]; exact hX.fix.wr.frozen x

set_option maxRecDepth 100000 in
set_option maxHeartbeats 4000000 in
theorem valid_good (E : Env) (s : St) (V : Nat → Value) (t : Nat) (step : Int) (w : World) (hl : Lay E) (h : PM w E s V) (hg : Good s) (ht : t < 3) (hi : inval s.wr (s.began t) (s.reads t) = none) (hws : ∀ i ∈ s.ws t, i < E.n ∧ E.ac i = 2) :
    Calls Yba.prog 13 #[.pointer (some ⟨E.br, 0, none⟩), .int .i64 t, .int .i64 step] w fun r w' => r = .returned (.tuple #[]) ∧ ∃ V', PM w' E (goodSt E s t step) V' ∧ Step E w V w' V' := by
  obtain ⟨i0, hi0, hz0, hz1, hz2⟩ := info_parts Yba.info82
  have hti : (t : Int) < 3 := by omega
  have c1 : w.cell? ⟨E.br, 1, none⟩ = some (.slice (some ⟨E.bn, 0, none⟩) 3 3) := h.fix.r.cell (by omega)
  have d1 := h.fix.st.nm t ht
  have HP := hid h
  have HG := hid hg
  have HI := hid hi
  clear h hg hi
  go_enter Yba.func13, Yba.ntmps13
  go_wp2_with fail
  have hbel : Below w.heap.size w (w.alloc (Obj.cells #[.string (E.nm t), .int .u8 3, .string ⟨#[]⟩] 39)) := (Below.refl _ _).alloc (Nat.le_refl _) _
  refine (inval_none E s V t _ hl (HP.out.below hl hbel) HG.out ht HI.out).mono ?_
  rintro r w1 ⟨rfl, hb1⟩
  have hbw := bel2 hbel hb1
  have o0 := hid (((bcell hb1).1 w.heap.size 0 (by simp)).trans (show _ = some (Value.string (E.nm t)) by go_simp))
  have o1 := hid (((bcell hb1).1 w.heap.size 1 (by simp)).trans (show _ = some (Value.int .u8 3) by go_simp))
  have o2 := hid (((bcell hb1).1 w.heap.size 2 (by simp)).trans (show _ = some (Value.string ⟨#[]⟩) by go_simp))
  have HP1 := hid (HP.out.below hl hbw)
  have HS1 := hid (Step.of_below (E := E) (V := V) hbw)
  have HF : Hid (¬ Foot E V w.heap.size) := HP.out.fresh hl (Nat.le_refl _)
  clear hb1 hbw hbel HP HI d1 c1
  generalize w.heap.size = bx at *
  have hcm := HG.out.cm
  have c15 : w1.cell? ⟨E.br, 15, none⟩ = some (.int .i64 (s.commits : Int)) := HP1.out.fix.r.cell (by omega)
  have f15 := HP1.out.fix.r.frozen 15
  have c18 : w1.cell? ⟨E.br, 18, none⟩ = some (.slice (some ⟨E.bws, 0, none⟩) 3 3) := HP1.out.fix.r.cell (by omega)
  obtain ⟨ao, cap, hv, hrow⟩ := row_shape (HP1.out.bank.own (4 + t) (by omega))
  rw [conL_ws s ht] at hv
  clear hrow
  have d18 : w1.cell? ⟨E.bws, t, none⟩ = some (.slice ao (s.ws t).length cap) := by rw [← hv]; exact HP1.out.fix.ws.cell ht
  have HV := hid hv
  have HX : Hid (∃ V', PM (w1.setCell ⟨E.br, 15, none⟩ (.int .i64 ((s.commits : Int) + 1))) E (commitK E t s 0) V' ∧ Step E w1 V (w1.setCell ⟨E.br, 15, none⟩ (.int .i64 ((s.commits : Int) + 1))) V' ∧ V' (4 + t) = V (4 + t)) := by
    obtain ⟨p1, q1⟩ := HP1.out.set_cm hl (s.commits + 1)
    exact ⟨V, p1, q1, rfl⟩
  have hlw := HG.out.ws t ht
  have n1 : E.br ≠ E.bws := by obtain ⟨l1, l2, l3, l4, l5, l6, l7, l8, l9, l10, l11, l12, l13, l14, l15, l16, _⟩ := hl; omega
  clear hv HP1
  go_wp2
  go_loopw [95] (fun u wr => ∃ k : Nat, k ≤ (s.ws t).length ∧ u = .int .i64 k ∧ Hid (∃ V', PM wr E (commitK E t s k) V' ∧ Step E w1 V wr V' ∧ V' (4 + t) = V (4 + t))) (fun u _ => (s.ws t).length - (intOf u).toNat)
  case atStart => exact ⟨0, by omega, rfl, HX⟩
  case round =>
    obtain ⟨k, hk, rfl, HK⟩ := hrel
    clear HX c15 f15 c18 d18
    by_cases hlt : k < (s.ws t).length
    · obtain ⟨Vk, hpk, hsk, hvk⟩ := HK.out
      have HFold := commit_fold E t ((s.ws t).take k) { s with commits := s.commits + 1 }
      obtain ⟨q1, q2, q3, q4⟩ := HFold
      obtain ⟨hin, hac⟩ := hws ((s.ws t).getD k 0) (by simp [List.getD, hlt])
      have HN := hid (commitK_succ E t s k hlt)
      have e1 : (commitK E t s k).commits = s.commits + 1 := q1
      have e2 : (commitK E t s k).ws = s.ws := q2
      have e3 : (commitK E t s k).ev.length ≤ 200000 := by
        have := HG.out.ev
        have h3 : (commitK E t s k).ev.length = s.ev.length + _ := q3
        rw [List.length_take] at h3
        omega
      have e4 : ∀ x, x < 3 → ((commitK E t s k).wr x).length ≤ 200000 := fun x hx => by
        have := HG.out.wr x hx
        have h3 : ((commitK E t s k).wr x).length ≤ (s.wr x).length + _ := q4 x
        rw [List.length_take] at h3
        omega
      clear q1 q2 q3 q4 HK
      generalize commitK E t s k = sk at *
      obtain ⟨ao', cap', hv', hrow⟩ := row_shape (hpk.bank.own (4 + t) (by omega))
      rw [conL_ws sk ht, e2] at hv' hrow
      rw [conC_ws sk ht, e2] at hrow
      have hvv := hv'.symm.trans (hvk.trans HV.out)
      injection hvv with v1 v2 v3
      subst v1 v3
      obtain ⟨g, rfl, hgl, hgc⟩ := hrow (by omega)
      have k1 : wr.cell? ⟨g, k, none⟩ = some (.int .i64 (((s.ws t).getD k 0 : Nat) : Int)) := (hgc k (by unfold esz; rw [if_neg (by omega), if_pos (by omega)]; omega)).trans (ints_get _ _ hlt)
      clear hgc hrow hv'
      generalize (s.ws t).getD k 0 = i at *
      obtain ⟨hio, hix⟩ := hl.io i hin (Or.inr hac)
      have HVK := hid (hvk)
      have hki : (k : Int) < ((s.ws t).length : Int) := by omega
      have hii : (i : Int) < (E.n : Int) := by omega
      have hxi : (E.ix i : Int) < 3 := by omega
      have c6 : wr.cell? ⟨E.br, 6, none⟩ = some (.slice (some ⟨E.bit, 0, none⟩) E.n E.n) := hpk.fix.r.cell (by omega)
      have c19 : wr.cell? ⟨E.br, 19, none⟩ = some (.slice (some ⟨E.bwr, 0, none⟩) 3 3) := hpk.fix.r.cell (by omega)
      have c15 : wr.cell? ⟨E.br, 15, none⟩ = some (.int .i64 (sk.commits : Int)) := hpk.fix.r.cell (by omega)
      have di : wr.cell? ⟨E.bit, i, none⟩ = some (.int .i64 (E.ix i : Int)) := by rw [← hio]; exact hpk.fix.st.io i hin
      obtain ⟨aw, capw, hvw, hroww⟩ := row_shape (hpk.bank.own (7 + E.ix i) (by omega))
      rw [conL_wr sk hix] at hvw hroww
      rw [conC_wr sk hix] at hroww
      have dw : wr.cell? ⟨E.bwr, E.ix i, none⟩ = some (.slice aw (sk.wr (E.ix i)).length capw) := by rw [← hvw]; exact hpk.fix.wr.cell hix
      have hlw2 := e4 (E.ix i) hix
      have HPk := hid hpk
      have HSk := hid hsk
      have HRw := hid hroww
      have HVW := hid hvw
      have nbw : E.br ≠ E.bwr := by obtain ⟨l1, l2, l3, l4, l5, l6, l7, l8, l9, l10, l11, l12, l13, l14, l15, l16, _⟩ := hl; omega
      have hcmk : sk.commits ≤ 301 := by omega
      clear hpk hsk hvk hroww hvw hio e1 e2
      by_cases h0 : (sk.wr (E.ix i)).length = 0
      · rw [h0] at dw
        have FIT : fits (sk.wr (E.ix i)) sk.commits = true := by unfold fits; rw [h0]; rfl
        replace FIT := hid FIT
        have HVW : Hid (Vk (7 + E.ix i) = .slice aw 0 capw) := HVW.out.trans (by rw [h0])
        go_wp2
        go_quiet (fail)
        go_wp2_with fail
        go_region_held3 (fun w' => w'.cell? ⟨E.br, 19, none⟩ = some (.slice (some ⟨E.bwr, 0, none⟩) 3 3) ∧ w'.cell? ⟨E.br, 15, none⟩ = some (.int .i64 (sk.commits : Int)))
          (first | exact ⟨p19, p15⟩ | exact ⟨set_far p19 nbw, set_far p15 nbw⟩ | go_keep)
          (first | (refine step_append_lies _ rfl _ _ 80 rfl E.base 82 i0 (.agg #[.int .i64 0, .int .i64 0]) 2 16 Yba.underlying80 hi0 hz0 hz1 hz2 rfl (by decide) _ _ (prs (sk.wr (E.ix i))) rfl (by rw [← HVW.out]; exact (HPk.out.below hl (by repeat (first | exact Below.refl _ _ | exact below_drewN (Below.refl _ _) _ | apply Below.drew | refine Below.alloc ?_ (by simp) _))).own_wr hix) ⟨wr.heap.size, 0, none⟩ 1 1 [.int .i64 (sk.commits : Int), .int .i64 (t : Int)] rfl rfl (news1 _ #[.int .i64 (sk.commits : Int), .int .i64 (t : Int)] 82 _ (by simp)) (ints_oneCell .i64 [(sk.commits : Int), (t : Int)]) (by decide) (by unfold maxLen; omega) (by omega) (by have := HPk.out.fix.size; simp; omega) (wr.heap.size + 1) (by simp) ?_; intro g2 cap2 w2 hown2 hg2 hat2 hlt3; obtain ⟨HPS, p19, p15, pw, pf⟩ := after_wr hl HPk.out (by repeat (first | exact Below.refl _ _ | exact below_drewN (Below.refl _ _) _ | apply Below.drew | refine Below.alloc ?_ (by simp) _)) HVW.out hix hown2 hg2 hat2 (by simp); replace HPS := hid HPS; clear hown2 hg2 hat2 hlt3))
        obtain ⟨hpt, hst⟩ := HPS.out
        rw [h0, Nat.zero_add] at hpt hst
        have HPt := hid (wrSt_fits FIT.out hpt)
        have HSt := hid (HSk.out.trans hst)
        have HVt : Hid (upd Vk (7 + E.ix i) (Value.slice (some ⟨g2, 0, none⟩) 1 cap2) (4 + t) = V (4 + t)) := (upd_other _ (by omega) _).trans HVK.out
        clear hpt hst HPS p19 p15 pw pf
        generalize upd Vk (7 + E.ix i) (Value.slice (some ⟨g2, 0, none⟩) 1 cap2) = Vt at *
        generalize w2.setCell ⟨E.bwr, E.ix i, none⟩ (Value.slice (some ⟨g2, 0, none⟩) 1 cap2) = w3 at *
        have c0 : w3.cell? ⟨E.br, 0, none⟩ = some (.pointer (some ⟨E.bs, 0, none⟩)) := HPt.out.fix.r.cell (by omega)
        have d0 := HPt.out.fix.st.sc
        have q0 := HPt.out.fix.st.o0 i hin
        have q1 := HPt.out.fix.st.o1 i hin
        have q2 := HPt.out.fix.st.o2 i hin
        rw [hac] at q1
        have hi1 : (i : Int) + 1 ≤ 301 := by have := hl.n; omega
        have hw1 : IntKind.i64.wrap ((i : Int) + 1) = (i : Int) + 1 := by rw [IntKind.wrap_i64]; omega
        go_wp2_with fail
        go_region_held3 (fun w' => w'.cell? ⟨E.br, 0, none⟩ = some (.pointer (some ⟨E.bs, 0, none⟩)) ∧ w'.cell? ⟨E.bs, 0, none⟩ = some (.slice (some ⟨E.bo, 0, none⟩) E.n E.n) ∧ w'.cell? ⟨E.bo, i * 3, none⟩ = some (.string (E.nm (E.tx i))) ∧ w'.cell? ⟨E.bo, i * 3 + 1, none⟩ = some (.int .u8 2) ∧ w'.cell? ⟨E.bo, i * 3 + 2, none⟩ = some (.string (E.it i)))
          (first | exact ⟨r0, r1, r2, r3, r4⟩ | go_keep)
          (first | (go_at_call 11; refine (exec_run E (wrSt sk (E.ix i) t) Vt t ((i : Int) + 1) (E.nm (E.tx i)) 2 (E.it i) _ hl (by exact HPt.out.below hl (Below.refl _ _).drew) ht (Or.inr (Or.inl rfl)) (Nat.le_trans e3 (by decide))).mono ?_; rintro r w5 ⟨rfl, V5, hp5, hs5, hv5⟩; have r0 : w5.cell? ⟨E.br, 0, none⟩ = some (.pointer (some ⟨E.bs, 0, none⟩)) := hp5.fix.r.cell (by omega); have r1 := hp5.fix.st.sc; have r2 := hp5.fix.st.o0 i hin; have r3 := hp5.fix.st.o1 i hin; have r4 := hp5.fix.st.o2 i hin; rw [hac] at r3))
        have HR := hid (show ∃ V', PM w5 E (commitK E t s (k + 1)) V' ∧ Step E w1 V w5 V' ∧ V' (4 + t) = V (4 + t) from ⟨V5, by rw [HN.out]; exact hp5, (HSt.out.trans (Step.of_below (Below.refl _ _).drew)).trans hs5, (hv5 (4 + t) (by omega)).trans HVt.out⟩)
        clear hp5 hs5 hv5 r0 r1 r2 r3 r4
        go_wp2
        go_roundw
        case rel => exact ⟨k + 1, by omega, by go_num, HR⟩
        case measure => simp [intOf]; omega
      · obtain ⟨m, hm⟩ : ∃ m, (sk.wr (E.ix i)).length = m + 1 := ⟨(sk.wr (E.ix i)).length - 1, by omega⟩
        obtain ⟨g', e1, e2, e5⟩ := HRw.out (by omega)
        subst e1
        have hsz : esz (7 + E.ix i) = 2 := by unfold esz; rw [if_neg (by omega), if_neg (by omega), if_pos (by omega)]
        have dq := (e5 (m * 2) (by rw [hsz]; omega)).trans (prs_get (sk.wr (E.ix i)) m (by omega)).1
        have FE : Hid (fits (sk.wr (E.ix i)) sk.commits = (((sk.wr (E.ix i)).getD m (0, 0)).1 != sk.commits)) := by
          show fits _ _ = _
          unfold fits
          rw [hm]
          rfl
        clear e5 hsz HRw h0
        have hw2 : IntKind.i64.wrap (((sk.wr (E.ix i)).length : Int) - 1) = (m : Int) := by rw [IntKind.wrap_i64]; omega
        have hml : (m : Int) < ((sk.wr (E.ix i)).length : Int) := by omega
        have hl0 : decide (((sk.wr (E.ix i)).length : Int) = 0) = false := decide_eq_false (by omega)
        have hl00 : ¬ (sk.wr (E.ix i)).length = 0 := by omega
        clear hm
        generalize hLL : (sk.wr (E.ix i)).length = lw at *
        replace hLL := hid hLL
        generalize ((sk.wr (E.ix i)).getD m (0, 0)).1 = q at *
        by_cases hq : q = sk.commits
        · have FIT : Hid (fits (sk.wr (E.ix i)) sk.commits = false) := FE.out.trans (by rw [hq]; simp)
          subst hq
          go_wp2
          go_quiet (fail)
          go_wp2_with fail
          have HPt := hid ((wrSt_not (t := t) FIT.out HPk.out).below hl (below_drewN (Below.refl _ _) nq))
          have HSt := hid (HSk.out.trans (Step.of_below (below_drewN (Below.refl _ _) nq)))
          have HVt := HVK
          generalize wr.drewN nq = w3 at *
          generalize Vk = Vt at *
          have c0 : w3.cell? ⟨E.br, 0, none⟩ = some (.pointer (some ⟨E.bs, 0, none⟩)) := HPt.out.fix.r.cell (by omega)
          have d0 := HPt.out.fix.st.sc
          have q0 := HPt.out.fix.st.o0 i hin
          have q1 := HPt.out.fix.st.o1 i hin
          have q2 := HPt.out.fix.st.o2 i hin
          rw [hac] at q1
          have hi1 : (i : Int) + 1 ≤ 301 := by have := hl.n; omega
          have hw1 : IntKind.i64.wrap ((i : Int) + 1) = (i : Int) + 1 := by rw [IntKind.wrap_i64]; omega
          go_wp2_with fail
          go_region_held3 (fun w' => w'.cell? ⟨E.br, 0, none⟩ = some (.pointer (some ⟨E.bs, 0, none⟩)) ∧ w'.cell? ⟨E.bs, 0, none⟩ = some (.slice (some ⟨E.bo, 0, none⟩) E.n E.n) ∧ w'.cell? ⟨E.bo, i * 3, none⟩ = some (.string (E.nm (E.tx i))) ∧ w'.cell? ⟨E.bo, i * 3 + 1, none⟩ = some (.int .u8 2) ∧ w'.cell? ⟨E.bo, i * 3 + 2, none⟩ = some (.string (E.it i)))
            (first | exact ⟨r0, r1, r2, r3, r4⟩ | go_keep)
            (first | (go_at_call 11; refine (exec_run E (wrSt sk (E.ix i) t) Vt t ((i : Int) + 1) (E.nm (E.tx i)) 2 (E.it i) _ hl (by exact HPt.out.below hl (Below.refl _ _).drew) ht (Or.inr (Or.inl rfl)) (Nat.le_trans e3 (by decide))).mono ?_; rintro r w5 ⟨rfl, V5, hp5, hs5, hv5⟩; have r0 : w5.cell? ⟨E.br, 0, none⟩ = some (.pointer (some ⟨E.bs, 0, none⟩)) := hp5.fix.r.cell (by omega); have r1 := hp5.fix.st.sc; have r2 := hp5.fix.st.o0 i hin; have r3 := hp5.fix.st.o1 i hin; have r4 := hp5.fix.st.o2 i hin; rw [hac] at r3))
          have HR := hid (show ∃ V', PM w5 E (commitK E t s (k + 1)) V' ∧ Step E w1 V w5 V' ∧ V' (4 + t) = V (4 + t) from ⟨V5, by rw [HN.out]; exact hp5, (HSt.out.trans (Step.of_below (Below.refl _ _).drew)).trans hs5, (hv5 (4 + t) (by omega)).trans HVt.out⟩)
          clear hp5 hs5 hv5 r0 r1 r2 r3 r4
          go_wp2
          go_roundw
          case rel => exact ⟨k + 1, by omega, by go_num, HR⟩
          case measure => simp [intOf]; omega
        · have FIT : Hid (fits (sk.wr (E.ix i)) sk.commits = true) := FE.out.trans (by simpa using hq)
          have hqi : ¬ (q : Int) = (sk.commits : Int) := by omega
          have hqd : decide (q = sk.commits) = false := decide_eq_false hq
          have hqn : ((q : Int) != (sk.commits : Int)) = true := by simpa using hqi
          have hqe : decide ((q : Int) = (sk.commits : Int)) = false := decide_eq_false hqi
          go_wp2
          go_quiet (fail)
          go_wp2_with fail
          go_region_held3 (fun w' => w'.cell? ⟨E.br, 19, none⟩ = some (.slice (some ⟨E.bwr, 0, none⟩) 3 3) ∧ w'.cell? ⟨E.br, 15, none⟩ = some (.int .i64 (sk.commits : Int)))
            (first | exact ⟨p19, p15⟩ | exact ⟨set_far p19 nbw, set_far p15 nbw⟩ | go_keep)
            (first | (refine step_append_lies _ rfl _ _ 80 rfl E.base 82 i0 (.agg #[.int .i64 0, .int .i64 0]) 2 16 Yba.underlying80 hi0 hz0 hz1 hz2 rfl (by decide) _ lw (prs (sk.wr (E.ix i))) rfl (by rw [← HVW.out, ← hLL.out]; exact (HPk.out.below hl (by repeat (first | exact Below.refl _ _ | exact below_drewN (Below.refl _ _) _ | apply Below.drew | refine Below.alloc ?_ (by simp) _))).own_wr hix) ⟨wr.heap.size, 0, none⟩ 1 1 [.int .i64 (sk.commits : Int), .int .i64 (t : Int)] rfl rfl (news1 _ #[.int .i64 (sk.commits : Int), .int .i64 (t : Int)] 82 _ (by simp)) (ints_oneCell .i64 [(sk.commits : Int), (t : Int)]) (by decide) (by unfold maxLen; omega) (by omega) (by have := HPk.out.fix.size; simp; omega) (wr.heap.size + 1) (by simp) ?_; intro g2 cap2 w2 hown2 hg2 hat2 hlt3; obtain ⟨HPS, p19, p15, pw, pf⟩ := after_wr hl HPk.out (by repeat (first | exact Below.refl _ _ | exact below_drewN (Below.refl _ _) _ | apply Below.drew | refine Below.alloc ?_ (by simp) _)) HVW.out hix (by rw [hLL.out]; exact hown2) hg2 hat2 (by simp); replace HPS := hid HPS; clear hown2 hg2 hat2 hlt3))
          obtain ⟨hpt, hst⟩ := HPS.out
          rw [hLL.out] at hpt hst
          have HPt := hid (wrSt_fits FIT.out hpt)
          have HSt := hid (HSk.out.trans hst)
          have HVt : Hid (upd Vk (7 + E.ix i) (Value.slice (some ⟨g2, 0, none⟩) (lw + 1) cap2) (4 + t) = V (4 + t)) := (upd_other _ (by omega) _).trans HVK.out
          clear hpt hst HPS p19 p15 pw pf
          generalize upd Vk (7 + E.ix i) (Value.slice (some ⟨g2, 0, none⟩) (lw + 1) cap2) = Vt at *
          generalize w2.setCell ⟨E.bwr, E.ix i, none⟩ (Value.slice (some ⟨g2, 0, none⟩) (lw + 1) cap2) = w3 at *
          have c0 : w3.cell? ⟨E.br, 0, none⟩ = some (.pointer (some ⟨E.bs, 0, none⟩)) := HPt.out.fix.r.cell (by omega)
          have d0 := HPt.out.fix.st.sc
          have q0 := HPt.out.fix.st.o0 i hin
          have q1 := HPt.out.fix.st.o1 i hin
          have q2 := HPt.out.fix.st.o2 i hin
          rw [hac] at q1
          have hi1 : (i : Int) + 1 ≤ 301 := by have := hl.n; omega
          have hw1 : IntKind.i64.wrap ((i : Int) + 1) = (i : Int) + 1 := by rw [IntKind.wrap_i64]; omega
          go_wp2_with fail
          go_region_held3 (fun w' => w'.cell? ⟨E.br, 0, none⟩ = some (.pointer (some ⟨E.bs, 0, none⟩)) ∧ w'.cell? ⟨E.bs, 0, none⟩ = some (.slice (some ⟨E.bo, 0, none⟩) E.n E.n) ∧ w'.cell? ⟨E.bo, i * 3, none⟩ = some (.string (E.nm (E.tx i))) ∧ w'.cell? ⟨E.bo, i * 3 + 1, none⟩ = some (.int .u8 2) ∧ w'.cell? ⟨E.bo, i * 3 + 2, none⟩ = some (.string (E.it i)))
            (first | exact ⟨r0, r1, r2, r3, r4⟩ | go_keep)
            (first | (go_at_call 11; refine (exec_run E (wrSt sk (E.ix i) t) Vt t ((i : Int) + 1) (E.nm (E.tx i)) 2 (E.it i) _ hl (by exact HPt.out.below hl (Below.refl _ _).drew) ht (Or.inr (Or.inl rfl)) (Nat.le_trans e3 (by decide))).mono ?_; rintro r w5 ⟨rfl, V5, hp5, hs5, hv5⟩; have r0 : w5.cell? ⟨E.br, 0, none⟩ = some (.pointer (some ⟨E.bs, 0, none⟩)) := hp5.fix.r.cell (by omega); have r1 := hp5.fix.st.sc; have r2 := hp5.fix.st.o0 i hin; have r3 := hp5.fix.st.o1 i hin; have r4 := hp5.fix.st.o2 i hin; rw [hac] at r3))
          have HR := hid (show ∃ V', PM w5 E (commitK E t s (k + 1)) V' ∧ Step E w1 V w5 V' ∧ V' (4 + t) = V (4 + t) from ⟨V5, by rw [HN.out]; exact hp5, (HSt.out.trans (Step.of_below (Below.refl _ _).drew)).trans hs5, (hv5 (4 + t) (by omega)).trans HVt.out⟩)
          clear hp5 hs5 hv5 r0 r1 r2 r3 r4
          go_wp2
          go_roundw
          case rel => exact ⟨k + 1, by omega, by go_num, HR⟩
          case measure => simp [intOf]; omega
    · have hke : k = (s.ws t).length := by omega
      have hlt2 : ¬ (k : Int) < ((s.ws t).length : Int) := by omega
      obtain ⟨Vk, hpk, hsk, hvk⟩ := HK.out
      rw [hke] at hpk
      have HPk := hid hpk
      have HSk := hid (HS1.out.trans hsk)
      have p0 := hsk.kept.cell o0.out HF.out
      have p1 := hsk.kept.cell o1.out HF.out
      have p2 := hsk.kept.cell o2.out HF.out
      have HF2 : Hid (¬ Foot E Vk bx) := fun hf => (hsk.foot bx hf).elim HF.out (fun hh => by have := cell_lt o0.out; omega)
      have HEV4 : Hid ((endSt (commitK E t s (s.ws t).length) t).ev.length ≤ 1000000) := by
        obtain ⟨q1, q2, q3, q4⟩ := commit_fold E t ((s.ws t).take (s.ws t).length) { s with commits := s.commits + 1 }
        have h3 : (commitK E t s (s.ws t).length).ev.length = s.ev.length + _ := q3
        rw [List.length_take] at h3
        have := HG.out.ev
        show (commitK E t s (s.ws t).length).ev.length ≤ _
        omega
      clear hpk hsk hvk HK o0 o1 o2 HF
      go_wp2_with fail
      refine (end_run E (commitK E t s (s.ws t).length) Vk t _ hl HPk.out ht).mono ?_
      rintro r w3 ⟨rfl, V3, hp3, hs3⟩
      have HP3 := hid hp3
      have HS3 := hid (HSk.out.trans hs3)
      have o0 := hs3.kept.cell p0 HF2.out
      have o1 := hs3.kept.cell p1 HF2.out
      have o2 := hs3.kept.cell p2 HF2.out
      have HF3 : Hid (¬ Foot E V3 bx) := fun hf => (hs3.foot bx hf).elim HF2.out (fun hh => by have := cell_lt p0; omega)
      clear hp3 hs3 HPk HSk p0 p1 p2 HF2
      go_wp2_with fail
      go_region_held3 (fun w' => w'.cell? ⟨bx, 0, none⟩ = some (.string (E.nm t)) ∧ w'.cell? ⟨bx, 1, none⟩ = some (.int .u8 3) ∧ w'.cell? ⟨bx, 2, none⟩ = some (.string ⟨#[]⟩))
        (first | exact ⟨p0, p1, p2⟩ | go_keep)
        (first | (go_at_call 11; refine (exec_run E (endSt (commitK E t s (s.ws t).length) t) V3 t step (E.nm t) 3 ⟨#[]⟩ _ hl (by exact HP3.out.below hl (Below.refl _ _).drew) ht (Or.inr (Or.inr (Or.inl rfl))) HEV4.out).mono ?_; rintro r w5 ⟨rfl, V5, hp5, hs5, hv5⟩; have p0 := hs5.kept.cell (by exact o0) HF3.out; have p1 := hs5.kept.cell (by exact o1) HF3.out; have p2 := hs5.kept.cell (by exact o2) HF3.out))
      have HR := hid (show ∃ V', PM w5 E (goodSt E s t step) V' ∧ Step E w V w5 V' from ⟨V5, hp5, (HS3.out.trans (Step.of_below (Below.refl _ _).drew)).trans hs5⟩)
      clear hp5 hs5 hv5 p0 p1 p2 HP3 HS3 o0 o1 o2
      go_wp2_with fail
      go_end0
      exact ⟨rfl, HR.out⟩
end Go.Proofs.Ybulkiec
