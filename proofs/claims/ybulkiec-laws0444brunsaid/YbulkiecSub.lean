/-
  LawS0444BRun: (*optimistic).submit whole, and the plain invariant.
-/
import Derived.Test.YbulkiecSubR
import Derived.Test.YbulkiecSubW
import Derived.Test.YbulkiecSubC
namespace Go.Proofs.Ybulkiec
open Go.ChangeShapes Go.WideShapes Go.ChangeAt Go.RowKit
set_option linter.unusedVariables false

/-- What 'validate' makes of the state. -/
def comSt (E : Env) (s : St) (t i : Nat) : St := match inval s.wr (s.began t) (s.reads t) with
  | some (x, wt) => badSt E s t ((i : Int) + 1) x wt
  | none => goodSt E s t ((i : Int) + 1)
/-- What 'submit' makes of the state. -/
def subSt (E : Env) (s : St) (i : Nat) : St :=
  if E.ac i = 1 then rdSt E (beginSt s (E.tx i)) (E.tx i) i
  else if E.ac i = 2 then wtSt E (beginSt s (E.tx i)) (E.tx i) i
  else if E.ac i = 3 then comSt E (beginSt s (E.tx i)) (E.tx i) i
  else abSt E (beginSt s (E.tx i)) (E.tx i) i

/-- The plain facts that hold behind i operations. -/
structure Inv (E : Env) (i : Nat) (s : St) : Prop where
  ev : s.ev.length ≤ 302 * i
  rd : ∀ t, (s.reads t).length ≤ i
  rdx : ∀ t, ∀ x ∈ s.reads t, x < 3
  ws : ∀ t, (s.ws t).length ≤ i
  wsx : ∀ t, ∀ j ∈ s.ws t, j < E.n ∧ E.ac j = 2
  wr : ∀ x, (s.wr x).length ≤ 302 * i
  wrt : ∀ x, ∀ p ∈ s.wr x, p.2 < 3 ∧ p.1 ≤ s.commits
  up : ∀ x, (s.wr x).Pairwise (fun p q => p.1 ≤ q.1)
  vs : s.victims.length ≤ i
  cm : s.commits ≤ i
  bg : ∀ t, -1 ≤ s.began t ∧ s.began t ≤ i

theorem Inv.good {E : Env} {i : Nat} {s : St} (h : Inv E i s) (hi : i ≤ 300) : Good s :=
  ⟨by have := h.ev; omega, fun t _ => by have := h.rd t; omega, fun t _ => h.rdx t, fun t _ => by have := h.ws t; omega, fun x _ => by have := h.wr x; omega, fun x _ p hp => (h.wrt x p hp).1,
   fun x _ a b hab hb => by
    have ha : a < (s.wr x).length := by omega
    rcases Nat.eq_or_lt_of_le hab with e | e
    · subst e; exact Nat.le_refl _
    · have := List.pairwise_iff_getElem.1 (h.up x) a b ha hb e
      simpa [List.getD, ha, hb] using this,
   by have := h.vs; omega, by have := h.cm; omega, fun t _ => by have := h.bg t; omega⟩

theorem Inv.begin {E : Env} {i : Nat} {s : St} (h : Inv E i s) (t : Nat) : Inv E i (beginSt s t) := by
  unfold beginSt
  split
  · exact ⟨h.ev, h.rd, h.rdx, h.ws, h.wsx, h.wr, h.wrt, h.up, h.vs, h.cm, fun u => by
      show -1 ≤ upd s.began t (s.commits : Int) u ∧ upd s.began t (s.commits : Int) u ≤ i
      by_cases e : u = t
      · subst e; rw [upd_same]; have := h.cm; omega
      · rw [upd_other _ e]; exact h.bg u⟩
  · exact h

theorem Inv.mono {E : Env} {i : Nat} {s : St} (h : Inv E i s) : Inv E (i + 1) s :=
  ⟨by have := h.ev; omega, fun t => by have := h.rd t; omega, h.rdx, fun t => by have := h.ws t; omega, h.wsx, fun x => by have := h.wr x; omega, h.wrt, h.up, by have := h.vs; omega, by have := h.cm; omega, fun t => by have := h.bg t; omega⟩

theorem Inv.read {E : Env} {i : Nat} {s : St} (h : Inv E i s) (t : Nat) (hx : E.ix i < 3) : Inv E (i + 1) (rdSt E s t i) := by
  have m := h.mono
  refine ⟨?_, fun u => ?_, fun u => ?_, m.ws, m.wsx, m.wr, m.wrt, m.up, m.vs, m.cm, m.bg⟩
  · show (s.ev ++ [_]).length ≤ _
    have := h.ev; simp; omega
  · show (upd s.reads t (s.reads t ++ [E.ix i]) u).length ≤ _
    by_cases e : u = t
    · subst e; rw [upd_same]; have := h.rd u; simp; omega
    · rw [upd_other _ e]; exact m.rd u
  · show ∀ x ∈ upd s.reads t (s.reads t ++ [E.ix i]) u, x < 3
    by_cases e : u = t
    · subst e; rw [upd_same]
      intro x hx'
      rcases List.mem_append.1 hx' with h1 | h1
      · exact h.rdx u x h1
      · rw [List.mem_singleton.1 h1]; exact hx
    · rw [upd_other _ e]; exact h.rdx u

theorem Inv.write {E : Env} {i : Nat} {s : St} (h : Inv E i s) (t : Nat) (hi : i < E.n) (ha : E.ac i = 2) : Inv E (i + 1) (wtSt E s t i) := by
  have m := h.mono
  refine ⟨?_, m.rd, m.rdx, fun u => ?_, fun u => ?_, m.wr, m.wrt, m.up, m.vs, m.cm, m.bg⟩
  · show (s.ev ++ [_]).length ≤ _
    have := h.ev; simp; omega
  · show (upd s.ws t (s.ws t ++ [i]) u).length ≤ _
    by_cases e : u = t
    · subst e; rw [upd_same]; have := h.ws u; simp; omega
    · rw [upd_other _ e]; exact m.ws u
  · show ∀ x ∈ upd s.ws t (s.ws t ++ [i]) u, x < E.n ∧ E.ac x = 2
    by_cases e : u = t
    · subst e; rw [upd_same]
      intro x hx'
      rcases List.mem_append.1 hx' with h1 | h1
      · exact h.wsx u x h1
      · rw [List.mem_singleton.1 h1]; exact ⟨hi, ha⟩
    · rw [upd_other _ e]; exact h.wsx u

/-- A run ends: the three lists shrink. -/
theorem ended_reads {s : St} {t : Nat} {p : List Nat → Prop} (h0 : p []) (h : ∀ u, p (s.reads u)) : ∀ u, p ((endSt s t).reads u) := fun u => by
  show p (upd s.reads t [] u)
  by_cases e : u = t
  · subst e; rw [upd_same]; exact h0
  · rw [upd_other _ e]; exact h u
theorem ended_ws {s : St} {t : Nat} {p : List Nat → Prop} (h0 : p []) (h : ∀ u, p (s.ws u)) : ∀ u, p ((endSt s t).ws u) := fun u => by
  show p (upd s.ws t [] u)
  by_cases e : u = t
  · subst e; rw [upd_same]; exact h0
  · rw [upd_other _ e]; exact h u
theorem ended_bg {s : St} {t : Nat} {p : Int → Prop} (h0 : p (-1)) (h : ∀ u, p (s.began u)) : ∀ u, p ((endSt s t).began u) := fun u => by
  show p (upd s.began t (-1) u)
  by_cases e : u = t
  · subst e; rw [upd_same]; exact h0
  · rw [upd_other _ e]; exact h u

theorem Inv.abort {E : Env} {i : Nat} {s : St} (h : Inv E i s) (t : Nat) : Inv E (i + 1) (abSt E s t i) := by
  have m := h.mono
  refine ⟨?_, ended_reads (s := s) (p := fun l => l.length ≤ i + 1) (by simp) m.rd, ended_reads (p := fun l => ∀ x ∈ l, x < 3) (by simp) m.rdx, ended_ws (s := s) (p := fun l => l.length ≤ i + 1) (by simp) m.ws, ended_ws (p := fun l => ∀ j ∈ l, j < E.n ∧ E.ac j = 2) (by simp) m.wsx, m.wr, m.wrt, m.up, m.vs, m.cm, ended_bg (p := fun z => -1 ≤ z ∧ z ≤ ((i + 1 : Nat) : Int)) (by omega) m.bg⟩
  show (s.ev ++ [_]).length ≤ _
  have := h.ev; simp; omega

theorem Inv.bad {E : Env} {i : Nat} {s : St} (h : Inv E i s) (t : Nat) (step : Int) (x wt : Nat) : Inv E (i + 1) (badSt E s t step x wt) := by
  have m := h.mono
  refine ⟨?_, ended_reads (s := s) (p := fun l => l.length ≤ i + 1) (by simp) m.rd, ended_reads (s := s) (p := fun l => ∀ x ∈ l, x < 3) (by simp) m.rdx, ended_ws (s := s) (p := fun l => l.length ≤ i + 1) (by simp) m.ws, ended_ws (s := s) (p := fun l => ∀ j ∈ l, j < E.n ∧ E.ac j = 2) (by simp) m.wsx, m.wr, m.wrt, m.up, ?_, m.cm, ended_bg (s := s) (p := fun z => -1 ≤ z ∧ z ≤ ((i + 1 : Nat) : Int)) (by omega) m.bg⟩
  · show ((s.ev ++ [_]) ++ [_]).length ≤ _
    have := h.ev; simp; omega
  · show (s.victims ++ [t]).length ≤ _
    have := h.vs; simp; omega

/-- The writers behind some writes of a commit. -/
theorem commit_wr {E : Env} {c : Nat} (t : Nat) (ht : t < 3) (l : List Nat) : ∀ s : St, s.commits = c → (∀ x, ∀ p ∈ s.wr x, p.2 < 3 ∧ p.1 ≤ c) → (∀ x, (s.wr x).Pairwise (fun p q => p.1 ≤ q.1)) →
    (∀ x, ∀ p ∈ (l.foldl (commitW E t) s).wr x, p.2 < 3 ∧ p.1 ≤ c) ∧ (∀ x, ((l.foldl (commitW E t) s).wr x).Pairwise (fun p q => p.1 ≤ q.1)) := by
  induction l with
  | nil => intro s _ h1 h2; exact ⟨h1, h2⟩
  | cons j r ih =>
    intro s hc h1 h2
    refine ih (commitW E t s j) hc (fun x => ?_) (fun x => ?_)
    · show ∀ p ∈ upd s.wr (E.ix j) (wput (s.wr (E.ix j)) s.commits t) x, p.2 < 3 ∧ p.1 ≤ c
      by_cases e : x = E.ix j
      · subst e; rw [upd_same]
        unfold wput
        split
        · intro p hp
          rcases List.mem_append.1 hp with h3 | h3
          · exact h1 _ p h3
          · rw [List.mem_singleton.1 h3]; exact ⟨ht, Nat.le_of_eq hc⟩
        · exact h1 _
      · rw [upd_other _ e]; exact h1 x
    · show (upd s.wr (E.ix j) (wput (s.wr (E.ix j)) s.commits t) x).Pairwise _
      by_cases e : x = E.ix j
      · subst e; rw [upd_same]
        unfold wput
        split
        · refine List.pairwise_append.2 ⟨h2 _, List.pairwise_singleton _ _, fun p hp q hq => ?_⟩
          rw [List.mem_singleton.1 hq]
          have := (h1 _ p hp).2
          show p.1 ≤ s.commits
          omega
        · exact h2 _
      · rw [upd_other _ e]; exact h2 x

theorem commit_rest (E : Env) (t : Nat) (l : List Nat) : ∀ s : St, (l.foldl (commitW E t) s).reads = s.reads ∧ (l.foldl (commitW E t) s).began = s.began ∧ (l.foldl (commitW E t) s).victims = s.victims ∧ (l.foldl (commitW E t) s).victim = s.victim := by
  induction l with
  | nil => intro s; exact ⟨rfl, rfl, rfl, rfl⟩
  | cons j r ih => intro s; exact ih (commitW E t s j)

theorem Inv.commit {E : Env} {i : Nat} {s : St} (h : Inv E i s) (hi : i ≤ 300) (t : Nat) (ht : t < 3) (step : Int) : Inv E (i + 1) (goodSt E s t step) := by
  have m := h.mono
  obtain ⟨f1, f2, f3, f4⟩ := commit_fold E t ((s.ws t).take (s.ws t).length) { s with commits := s.commits + 1 }
  obtain ⟨g1, g2, g3, g4⟩ := commit_rest E t ((s.ws t).take (s.ws t).length) { s with commits := s.commits + 1 }
  obtain ⟨k1, k2⟩ := commit_wr (E := E) (c := s.commits + 1) t ht ((s.ws t).take (s.ws t).length) { s with commits := s.commits + 1 } rfl (fun x p hp => ⟨(h.wrt x p hp).1, by have := (h.wrt x p hp).2; omega⟩) h.up
  have e0 : commitK E t s (s.ws t).length = ((s.ws t).take (s.ws t).length).foldl (commitW E t) { s with commits := s.commits + 1 } := rfl
  rw [← e0] at f1 f2 f3 f4 g1 g2 g3 g4 k1 k2
  have hw := h.ws t
  have hlen : ((s.ws t).take (s.ws t).length).length ≤ i := by rw [List.length_take]; omega
  refine ⟨?_, ended_reads (s := commitK E t s (s.ws t).length) (p := fun l => l.length ≤ i + 1) (by simp) (by rw [g1]; exact m.rd), ended_reads (s := commitK E t s (s.ws t).length) (p := fun l => ∀ x ∈ l, x < 3) (by simp) (by rw [g1]; exact m.rdx), ended_ws (s := commitK E t s (s.ws t).length) (p := fun l => l.length ≤ i + 1) (by simp) (by rw [f2]; exact m.ws),
    ended_ws (s := commitK E t s (s.ws t).length) (p := fun l => ∀ j ∈ l, j < E.n ∧ E.ac j = 2) (by simp) (by rw [f2]; exact m.wsx), fun x => ?_, fun x p hp => ?_, fun x => k2 x, ?_, ?_, ended_bg (s := commitK E t s (s.ws t).length) (p := fun z => -1 ≤ z ∧ z ≤ ((i + 1 : Nat) : Int)) (by omega) (by rw [g2]; exact m.bg)⟩
  · show ((commitK E t s (s.ws t).length).ev ++ [_]).length ≤ _
    rw [List.length_append, f3]
    have : ({ s with commits := s.commits + 1 } : St).ev.length = s.ev.length := rfl
    have := h.ev
    simp only [List.length_singleton]
    omega
  · show ((commitK E t s (s.ws t).length).wr x).length ≤ _
    have h4 := f4 x
    have : ({ s with commits := s.commits + 1 } : St).wr x = s.wr x := rfl
    rw [this] at h4
    have := h.wr x
    omega
  · have hc : (commitK E t s (s.ws t).length).commits = s.commits + 1 := f1
    show p.2 < 3 ∧ p.1 ≤ (commitK E t s (s.ws t).length).commits
    rw [hc]
    exact k1 x p hp
  · show (commitK E t s (s.ws t).length).victims.length ≤ _
    rw [g3]; exact m.vs
  · show (commitK E t s (s.ws t).length).commits ≤ _
    rw [f1]
    have := h.cm
    show s.commits + 1 ≤ _
    omega

theorem firstW_lt {l : List (Nat × Nat)} {b : Int} {t : Nat} (h : firstW l b = some t) (hl : ∀ p ∈ l, p.2 < 3) : t < 3 := by
  unfold firstW at h
  cases hf : l.find? (fun p => decide (b < (p.1 : Int))) with
  | none => rw [hf] at h; cases h
  | some p =>
    rw [hf] at h
    injection h with h
    rw [← h]
    exact hl p (List.mem_of_find?_eq_some hf)

theorem inval_lt {wr : Nat → List (Nat × Nat)} {b : Int} (hw : ∀ x, ∀ p ∈ wr x, p.2 < 3) {x wt : Nat} : ∀ l : List Nat, (∀ y ∈ l, y < 3) → inval wr b l = some (x, wt) → x < 3 ∧ wt < 3
  | [], _, h => by cases h
  | y :: r, hl, h => by
    unfold inval at h
    cases hf : firstW (wr y) b with
    | none =>
      rw [hf] at h
      exact inval_lt hw r (fun z hz => hl z (List.mem_cons_of_mem _ hz)) h
    | some t =>
      rw [hf] at h
      injection h with h
      injection h with h1 h2
      subst h1 h2
      exact ⟨hl y (List.mem_cons_self ..), firstW_lt hf (hw y)⟩

theorem Inv.sub {E : Env} {i : Nat} {s : St} (hl : Lay E) (h : Inv E i s) (hi : i < E.n) : Inv E (i + 1) (subSt E s i) := by
  have hb := h.begin (E.tx i)
  have hn := hl.n
  unfold subSt
  split
  · rename_i ha
    exact hb.read _ (hl.io i hi (Or.inl ha)).2
  · split
    · rename_i ha
      exact hb.write _ hi ha
    · split
      · unfold comSt
        split
        · exact hb.bad _ _ _ _
        · exact hb.commit (by omega) _ (hl.tx i hi) _
      · exact hb.abort _

/-- (*optimistic).submit. -/
theorem sub_run (E : Env) (s : St) (V : Nat → Value) (i : Nat) (w : World) (hl : Lay E) (h : PM w E s V) (hv : Inv E i s) (hi : i < E.n) :
    Calls Yba.prog 6 #[.pointer (some ⟨E.br, 0, none⟩), .int .i64 i] w fun r w' => r = .returned (.tuple #[]) ∧ ∃ V', PM w' E (subSt E s i) V' ∧ Step E w V w' V' := by
  have hn := hl.n
  have hg := hv.good (by omega)
  have hb := hv.begin (E.tx i)
  unfold subSt
  rcases hl.ac i hi with ha | ha | ha | ha
  · rw [if_pos ha]
    by_cases hneg : s.began (E.tx i) < 0
    · exact sub_readn E s V i _ w hl h hg hi rfl ha hneg
    · exact sub_readp E s V i _ w hl h hg hi rfl ha hneg
  · rw [if_neg (by omega), if_pos ha]
    by_cases hneg : s.began (E.tx i) < 0
    · exact sub_writen E s V i _ w hl h hg hi rfl ha hneg
    · exact sub_writep E s V i _ w hl h hg hi rfl ha hneg
  · rw [if_neg (by omega), if_neg (by omega), if_pos ha]
    unfold comSt
    split
    · rename_i x wt hiv
      obtain ⟨hx, hwt⟩ := inval_lt (fun x p hp => (hb.wrt x p hp).1) _ (hb.rdx _) hiv
      by_cases hneg : s.began (E.tx i) < 0
      · exact sub_badn E s V i _ w hl h hg hi rfl ha hneg x wt hx hwt hiv
      · exact sub_badp E s V i _ w hl h hg hi rfl ha hneg x wt hx hwt hiv
    · rename_i hiv
      by_cases hneg : s.began (E.tx i) < 0
      · exact sub_goodn E s V i _ w hl h hg hi rfl ha hneg hiv (hb.wsx _)
      · exact sub_goodp E s V i _ w hl h hg hi rfl ha hneg hiv (hb.wsx _)
  · rw [if_neg (by omega), if_neg (by omega), if_neg (by omega)]
    by_cases hneg : s.began (E.tx i) < 0
    · exact sub_abortn E s V i _ w hl h hg hi rfl ha hneg
    · exact sub_abortp E s V i _ w hl h hg hi rfl ha hneg
end Go.Proofs.Ybulkiec
