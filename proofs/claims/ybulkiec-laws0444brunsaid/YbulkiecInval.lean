/-
  LawS0444BRun: (*optimistic).invalidation.
-/
import Derived.Test.YbulkiecRunC
import Derived.Test.YbulkiecSearch
namespace Go.Proofs.Ybulkiec
open Go.ChangeShapes Go.WideShapes Go.ChangeAt Go.RowKit
set_option linter.unusedVariables false
attribute [local go_sem ↓] Go.wp_at_zero Go.wp_at_succ

/-! ### The plain part -/
/-- The transaction of the first commit after b. -/
def firstW (l : List (Nat × Nat)) (b : Int) : Option Nat := (l.find? (fun p => decide (b < (p.1 : Int)))).map (·.2)
/-- The first item read that was written after b, and by whom. -/
def inval (wr : Nat → List (Nat × Nat)) (b : Int) : List Nat → Option (Nat × Nat)
  | [] => none
  | x :: r => match firstW (wr x) b with
    | some t => some (x, t)
    | none => inval wr b r

theorem firstW_at (l : List (Nat × Nat)) (b : Int) (k : Nat) (hk : k < l.length) (h1 : ∀ i, i < k → ((l.getD i (0, 0)).1 : Int) < b + 1) (h2 : b + 1 ≤ ((l.getD k (0, 0)).1 : Int)) : firstW l b = some (l.getD k (0, 0)).2 := by
  unfold firstW
  have : l.find? (fun p => decide (b < (p.1 : Int))) = some (l.getD k (0, 0)) := by
    rw [List.find?_eq_some_iff_getElem]
    refine ⟨decide_eq_true (by omega), k, hk, by simp [List.getD, hk], fun j hj => ?_⟩
    have := h1 j hj
    have hjl : j < l.length := by omega
    simp only [List.getD, List.getElem?_eq_getElem hjl, Option.getD_some] at this
    simp
    omega
  rw [this]
  rfl

theorem firstW_none (l : List (Nat × Nat)) (b : Int) (h1 : ∀ i, i < l.length → ((l.getD i (0, 0)).1 : Int) < b + 1) : firstW l b = none := by
  unfold firstW
  have : l.find? (fun p => decide (b < (p.1 : Int))) = none := by
    rw [List.find?_eq_none]
    intro p hp
    obtain ⟨i, hi, rfl⟩ := List.getElem_of_mem hp
    have := h1 i hi
    simp only [List.getD, List.getElem?_eq_getElem hi, Option.getD_some] at this
    simp
    omega
  rw [this]
  rfl

theorem drop_cons (l : List Nat) (k : Nat) (h : k < l.length) : l.drop k = l.getD k 0 :: l.drop (k + 1) := by
  rw [List.drop_eq_getElem_cons h]
  simp [List.getD, h]

theorem ints_get (l : List Nat) (j : Nat) (h : j < l.length) : (ints l)[j]? = some (.int .i64 ((l.getD j 0 : Nat) : Int)) := by simp [ints, List.getD, h]

theorem prs_length (l : List (Nat × Nat)) : (prs l).length = l.length * 2 := by
  induction l with
  | nil => rfl
  | cons p r ih => simp [prs] at ih ⊢; omega

theorem prs_get (l : List (Nat × Nat)) : ∀ j, j < l.length → (prs l)[j * 2]? = some (.int .i64 ((l.getD j (0, 0)).1 : Int)) ∧ (prs l)[j * 2 + 1]? = some (.int .i64 ((l.getD j (0, 0)).2 : Int)) := by
  induction l with
  | nil => intro j h; simp at h
  | cons p r ih =>
    intro j h
    cases j with
    | zero => exact ⟨rfl, rfl⟩
    | succ j =>
      obtain ⟨h1, h2⟩ := ih j (by simpa using h)
      have e : prs (p :: r) = .int .i64 (p.1 : Int) :: .int .i64 (p.2 : Int) :: prs r := rfl
      rw [e, show (j + 1) * 2 = j * 2 + 1 + 1 by omega]
      exact ⟨h1, h2⟩

/-- What a slice that owns its row looks like. -/
theorem row_shape {w : World} {base : Nat} {e : TypeId} {sz : Nat} {v : Value} {n : Nat} {xs : List Value} (h : w.ownsRow base e sz v n xs) :
    ∃ ao cap, v = .slice ao n cap ∧ (0 < n → ∃ g, ao = some ⟨g, 0, none⟩ ∧ g < w.heap.size ∧ ∀ j, j < n * sz → w.cell? ⟨g, j, none⟩ = xs[j]?) := by
  by_cases h0 : 0 < n
  · obtain ⟨g, cap, rfl, hb, hlt⟩ := h.form h0
    exact ⟨some ⟨g, 0, none⟩, cap, rfl, fun _ => ⟨g, rfl, hlt, fun j hj => h.cellAt j hj⟩⟩
  · rcases h.2 with ⟨rfl, hn⟩ | ⟨g, cap, cur, rfl, _⟩
    · exact ⟨none, 0, by rw [hn], fun h => absurd h h0⟩
    · exact ⟨_, _, rfl, fun h => absurd h h0⟩

/-- The answer of 'invalidation' as three values. -/
def ans3 : Option (Nat × Nat) → Value
  | none => .tuple #[.int .i64 0, .int .i64 0, .bool false]
  | some (x, t) => .tuple #[.int .i64 (x : Int), .int .i64 (t : Int), .bool true]

/-- The plain facts on a state that the walks lean on. -/
structure Good (s : St) : Prop where
  ev : s.ev.length ≤ 100000
  rd : ∀ t, t < 3 → (s.reads t).length ≤ 300
  rdx : ∀ t, t < 3 → ∀ x ∈ s.reads t, x < 3
  ws : ∀ t, t < 3 → (s.ws t).length ≤ 300
  wr : ∀ x, x < 3 → (s.wr x).length ≤ 100000
  wrt : ∀ x, x < 3 → ∀ p ∈ s.wr x, p.2 < 3
  up : ∀ x, x < 3 → ∀ i j, i ≤ j → j < (s.wr x).length → ((s.wr x).getD i (0, 0)).1 ≤ ((s.wr x).getD j (0, 0)).1
  vs : s.victims.length ≤ 300
  cm : s.commits ≤ 300
  bg : ∀ t, t < 3 → -1 ≤ s.began t ∧ s.began t ≤ 300

set_option maxRecDepth 100000 in
set_option maxHeartbeats 4000000 in
theorem inval_run (E : Env) (s : St) (V : Nat → Value) (t : Nat) (w : World) (hl : Lay E) (h : PM w E s V) (hg : Good s) (ht : t < 3) :
    Calls Yba.prog 15 #[.pointer (some ⟨E.br, 0, none⟩), .int .i64 t] w fun r w' => r = .returned (ans3 (inval s.wr (s.began t) (s.reads t))) ∧ Below w.heap.size w w' := by
  have hti : (t : Int) < 3 := by omega
  have c17 : w.cell? ⟨E.br, 17, none⟩ = some (.slice (some ⟨E.brd, 0, none⟩) 3 3) := h.fix.r.cell (by omega)
  obtain ⟨ao, cap, hv, hrow⟩ := row_shape (h.bank.own (1 + t) (by omega))
  rw [conL_rd s ht] at hv hrow
  rw [conC_rd s ht] at hrow
  have d17 : w.cell? ⟨E.brd, t, none⟩ = some (.slice ao (s.reads t).length cap) := by rw [← hv]; exact h.fix.rd.cell ht
  have hlr := hg.rd t ht
  have hbd := hg.bg t ht
  have HP := hid h
  have HG := hid hg
  have HRow := hid hrow
  clear h hg hrow hv
  go_enter Yba.func15, Yba.ntmps15
  go_wp2
  go_loopw [20] (fun u wr => ∃ k : Nat, k ≤ (s.reads t).length ∧ u = .int .i64 k ∧ Hid (inval s.wr (s.began t) ((s.reads t).drop k) = inval s.wr (s.began t) (s.reads t)) ∧ Hid (Below w.heap.size w wr)) (fun u _ => (s.reads t).length - (intOf u).toNat)
  case atStart => exact ⟨0, by omega, rfl, rfl, Below.refl _ _⟩
  case round =>
    obtain ⟨k, hk, rfl, HI, HB⟩ := hrel
    by_cases hlt : k < (s.reads t).length
    · obtain ⟨g, hg, hgl, hgc⟩ := HRow.out (by omega)
      subst hg
      have HD := hid (drop_cons (s.reads t) k hlt)
      have hx : (s.reads t).getD k 0 < 3 := HG.out.rdx t ht _ (by simp [List.getD, hlt])
      have k1 : wr.cell? ⟨g, k, none⟩ = some (.int .i64 (((s.reads t).getD k 0 : Nat) : Int)) := (HB.out.cell (p := ⟨g, k, none⟩) hgl).trans ((hgc k (by unfold esz; rw [if_neg (by omega), if_pos (by omega)]; omega)).trans (ints_get _ _ hlt))
      clear hgc
      generalize (s.reads t).getD k 0 = x at *
      have hki : (k : Int) < ((s.reads t).length : Int) := by omega
      have hxi : (x : Int) < 3 := by omega
      have HPr := hid (HP.out.below hl HB.out)
      have c19 : wr.cell? ⟨E.br, 19, none⟩ = some (.slice (some ⟨E.bwr, 0, none⟩) 3 3) := HPr.out.fix.r.cell (by omega)
      have c16 : wr.cell? ⟨E.br, 16, none⟩ = some (.slice (some ⟨E.bb, 0, none⟩) 3 3) := HPr.out.fix.r.cell (by omega)
      have db := HPr.out.fix.bg.cell ht
      obtain ⟨aw, capw, hvw, hroww⟩ := row_shape (HPr.out.bank.own (7 + x) (by omega))
      rw [conL_wr s hx] at hvw hroww
      rw [conC_wr s hx] at hroww
      have dw : wr.cell? ⟨E.bwr, x, none⟩ = some (.slice aw (s.wr x).length capw) := by rw [← hvw]; exact HPr.out.fix.wr.cell hx
      have HRw := hid hroww
      have hlw := HG.out.wr x hx
      clear hvw hroww
      go_wp2_with fail
      refine (search_run aw (s.wr x).length capw (fun i => (((s.wr x).getD i (0, 0)).1 : Int)) (fun i => (((s.wr x).getD i (0, 0)).2 : Int)) (s.began t + 1) _ (by omega) ?_ ?_).mono ?_
      · intro h0
        obtain ⟨g', e1, e2, e3⟩ := HRw.out h0
        refine ⟨g', e1, e2, fun i hi => ?_⟩
        have hsz : esz (7 + x) = 2 := by unfold esz; rw [if_neg (by omega), if_neg (by omega), if_pos (by omega)]
        obtain ⟨q1, q2⟩ := prs_get (s.wr x) i hi
        exact ⟨(e3 (i * 2) (by rw [hsz]; omega)).trans q1, (e3 (i * 2 + 1) (by rw [hsz]; omega)).trans q2⟩
      · intro i j hij hj
        have := HG.out.up x hx i j hij hj
        show (((s.wr x).getD i (0, 0)).1 : Int) ≤ (((s.wr x).getD j (0, 0)).1 : Int)
        omega
      · rintro r w1 ⟨kk, bb, rfl, hkk, hlo, hhi, hb1⟩
        have HB1 := hid (bel2 HB.out hb1)
        by_cases hkl : kk < (s.wr x).length
        · have hki2 : (kk : Int) < ((s.wr x).length : Int) := by omega
          have HF := hid (firstW_at (s.wr x) (s.began t) kk hkl hlo (hhi kk (Nat.le_refl _) hkl))
          have HA : Hid (inval s.wr (s.began t) (s.reads t) = some (x, ((s.wr x).getD kk (0, 0)).2)) := by
            have h1 := HI.out
            rw [HD.out] at h1
            rw [← h1]
            show (match firstW (s.wr x) (s.began t) with | some t => some (x, t) | none => _) = _
            rw [HF.out]
          obtain ⟨g', e1, e2, e3⟩ := HRw.out (by omega)
          subst e1
          have hsz : esz (7 + x) = 2 := by unfold esz; rw [if_neg (by omega), if_neg (by omega), if_pos (by omega)]
          have q2 := (hb1.cell (p := ⟨g', kk * 2 + 1, none⟩) e2).trans ((e3 (kk * 2 + 1) (by rw [hsz]; omega)).trans (prs_get (s.wr x) kk hkl).2)
          clear e3 hsz hlo hhi hb1 HRw HD HI HF
          generalize ((s.wr x).getD kk (0, 0)).2 = wt at *
          go_wp2
          go_quiet (fail)
          go_wp2
          go_ret3
          exact ⟨by rw [HA.out]; rfl, below_drewN HB1.out _⟩
        · have hki2 : ¬ (kk : Int) < ((s.wr x).length : Int) := by omega
          have HN : Hid (inval s.wr (s.began t) ((s.reads t).drop (k + 1)) = inval s.wr (s.began t) (s.reads t)) := by
            have h1 := HI.out
            rw [HD.out] at h1
            rw [← h1]
            show _ = (match firstW (s.wr x) (s.began t) with | some t => some (x, t) | none => inval s.wr (s.began t) ((s.reads t).drop (k + 1)))
            rw [firstW_none (s.wr x) (s.began t) (fun i hi => hlo i (by omega))]
          clear hlo hhi hb1 HRw HD HI
          go_wp2
          go_roundw
          case rel => exact ⟨k + 1, by omega, by go_num, HN, HB1⟩
          case measure => simp [intOf]; omega
    · have hke : k = (s.reads t).length := by omega
      have HE : Hid (inval s.wr (s.began t) (s.reads t) = none) := by
        have := HI.out
        rw [hke, List.drop_length] at this
        exact this.symm
      clear hke
      go_wp2
      go_ret3
      exact ⟨by rw [HE.out]; rfl, HB.out⟩
end Go.Proofs.Ybulkiec
