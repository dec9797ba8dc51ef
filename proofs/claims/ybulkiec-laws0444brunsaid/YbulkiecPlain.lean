/-
  LawS0444BRun: the model's writers beside the program's.
-/
import Derived.Test.YbulkiecModelB
namespace Go.Proofs.Ybulkiec
open Go.ChangeShapes Go.WideShapes Go.ChangeAt Go.RowKit
set_option linter.unusedVariables false

/-- The model adds a writer at every write. -/
def mwW (E : Env) (c t : Nat) (mw : Nat → List (Nat × Nat)) (j : Nat) : Nat → List (Nat × Nat) := upd mw (E.ix j) (mw (E.ix j) ++ [(c, t)])
def nextMw (E : Env) (s : St) (mw : Nat → List (Nat × Nat)) (i : Nat) : Nat → List (Nat × Nat) :=
  if E.ac i = 3 then (match inval (beginSt s (E.tx i)).wr ((beginSt s (E.tx i)).began (E.tx i)) ((beginSt s (E.tx i)).reads (E.tx i)) with
    | some _ => mw
    | none => (s.ws (E.tx i)).foldl (mwW E (s.commits + 1) (E.tx i)) mw)
  else mw

theorem firstW_snoc (m : List (Nat × Nat)) (c t : Nat) (b : Int) : firstW (m ++ [(c, t)]) b = match firstW m b with
    | some u => some u
    | none => if b < (c : Int) then some t else none := by
  unfold firstW
  rw [List.find?_append]
  cases m.find? (fun p => decide (b < (p.1 : Int))) with
  | some p => rfl
  | none =>
    by_cases h : b < (c : Int)
    · simp [h]
    · simp [h]

theorem firstW_mem {l : List (Nat × Nat)} {b : Int} {p : Nat × Nat} (hp : p ∈ l) (hb : b < (p.1 : Int)) : firstW l b ≠ none := by
  unfold firstW
  cases hf : l.find? (fun p => decide (b < (p.1 : Int))) with
  | some q => simp
  | none =>
    have := List.find?_eq_none.1 hf p hp
    simp at this
    omega

theorem wput_rel {l m : List (Nat × Nat)} {c t : Nat} (h : ∀ b, firstW l b = firstW m b) : ∀ b, firstW (wput l c t) b = firstW (m ++ [(c, t)]) b := by
  intro b
  unfold wput
  cases hf : fits l c with
  | true =>
    rw [if_pos rfl, firstW_snoc, firstW_snoc, h b]
  | false =>
    rw [if_neg (by simp), firstW_snoc, ← h b]
    unfold fits at hf
    simp only [Bool.or_eq_false_iff, beq_eq_false_iff_ne, bne_eq_false_iff_eq] at hf
    obtain ⟨h1, h2⟩ := hf
    have hlt : l.length - 1 < l.length := by omega
    have hm : l.getD (l.length - 1) (0, 0) ∈ l := by
      simp only [List.getD, List.getElem?_eq_getElem hlt, Option.getD_some]
      exact List.getElem_mem hlt
    cases hw : firstW l b with
    | some u => rfl
    | none =>
      by_cases hb : b < (c : Int)
      · exact absurd hw (firstW_mem hm (by rw [h2]; exact hb))
      · simp [hb]

/-- How the model's writers stand to the program's behind i operations. -/
structure WR (i : Nat) (s : St) (mw : Nat → List (Nat × Nat)) : Prop where
  same : ∀ x b, firstW (s.wr x) b = firstW (mw x) b
  len : ∀ x, (mw x).length ≤ 302 * i
  lt : ∀ x, ∀ p ∈ mw x, p.2 < 3

theorem inval_congr {wr mw : Nat → List (Nat × Nat)} (h : ∀ x b, firstW (wr x) b = firstW (mw x) b) (b : Int) : ∀ l : List Nat, inval wr b l = inval mw b l
  | [] => rfl
  | x :: r => by
    unfold inval
    rw [h x b, inval_congr h b r]

theorem commit_rel {E : Env} {c : Nat} (t : Nat) (ht : t < 3) (l : List Nat) : ∀ (s : St) (mw : Nat → List (Nat × Nat)), s.commits = c → (∀ x b, firstW (s.wr x) b = firstW (mw x) b) → (∀ x, ∀ p ∈ mw x, p.2 < 3) →
    (∀ x b, firstW ((l.foldl (commitW E t) s).wr x) b = firstW (l.foldl (mwW E c t) mw x) b) ∧ (∀ x, (l.foldl (mwW E c t) mw x).length ≤ (mw x).length + l.length) ∧ (∀ x, ∀ p ∈ l.foldl (mwW E c t) mw x, p.2 < 3) := by
  induction l with
  | nil => intro s mw _ h1 h2; exact ⟨h1, fun x => Nat.le_refl _, h2⟩
  | cons j r ih =>
    intro s mw hc h1 h2
    have hA : ∀ x b, firstW ((commitW E t s j).wr x) b = firstW (mwW E c t mw j x) b := fun x b => by
      show firstW (upd s.wr (E.ix j) (wput (s.wr (E.ix j)) s.commits t) x) b = firstW (upd mw (E.ix j) (mw (E.ix j) ++ [(c, t)]) x) b
      by_cases e : x = E.ix j
      · subst e; rw [upd_same, upd_same, hc]; exact wput_rel (h1 _) b
      · rw [upd_other _ e, upd_other _ e]; exact h1 x b
    have hB : ∀ x, ∀ p ∈ mwW E c t mw j x, p.2 < 3 := fun x => by
      unfold mwW
      by_cases e : x = E.ix j
      · subst e; rw [upd_same]
        intro p hp
        rcases List.mem_append.1 hp with h3 | h3
        · exact h2 _ p h3
        · rw [List.mem_singleton.1 h3]; exact ht
      · rw [upd_other _ e]; exact h2 x
    obtain ⟨r1, r2, r3⟩ := ih (commitW E t s j) (mwW E c t mw j) hc hA hB
    refine ⟨r1, fun x => ?_, r3⟩
    have h3 := r2 x
    have h4 : (mwW E c t mw j x).length ≤ (mw x).length + 1 := by
      unfold mwW
      by_cases e : x = E.ix j
      · subst e; rw [upd_same]; simp
      · rw [upd_other _ e]; omega
    rw [List.foldl_cons, List.length_cons]
    omega

theorem begin_wr (s : St) (t : Nat) : (beginSt s t).wr = s.wr ∧ (beginSt s t).ws = s.ws ∧ (beginSt s t).commits = s.commits ∧ (beginSt s t).reads = s.reads ∧ (beginSt s t).ev = s.ev := by
  unfold beginSt; split <;> exact ⟨rfl, rfl, rfl, rfl, rfl⟩

theorem WR.sub {E : Env} {i : Nat} {s : St} {mw : Nat → List (Nat × Nat)} (hl : Lay E) (hv : Inv E i s) (h : WR i s mw) (hi : i < E.n) : WR (i + 1) (subSt E s i) (nextMw E s mw i) := by
  obtain ⟨b1, b2, b3, b4, b5⟩ := begin_wr s (E.tx i)
  have hn := hl.n
  have hkeep : ∀ s', s'.wr = s.wr → WR (i + 1) s' mw := fun s' e => ⟨fun x b => by rw [e]; exact h.same x b, fun x => by have := h.len x; omega, h.lt⟩
  unfold subSt nextMw
  rcases hl.ac i hi with ha | ha | ha | ha
  · rw [if_pos ha, if_neg (by omega)]
    exact hkeep _ b1
  · rw [if_neg (by omega), if_pos ha, if_neg (by omega)]
    exact hkeep _ b1
  · rw [if_neg (by omega), if_neg (by omega), if_pos ha, if_pos ha]
    unfold comSt
    split
    · rename_i x wt hiv
      rw [hiv]
      exact hkeep _ b1
    · rename_i hiv
      rw [hiv]
      obtain ⟨r1, r2, r3⟩ := commit_rel (E := E) (c := s.commits + 1) (E.tx i) (hl.tx i hi) (s.ws (E.tx i)) { beginSt s (E.tx i) with commits := (beginSt s (E.tx i)).commits + 1 } mw (by show (beginSt s (E.tx i)).commits + 1 = _; rw [b3]) (fun x b => by show firstW ((beginSt s (E.tx i)).wr x) b = _; rw [b1]; exact h.same x b) h.lt
      refine ⟨fun x b => ?_, fun x => ?_, r3⟩
      · rw [← r1 x b]
        show firstW ((commitK E (E.tx i) (beginSt s (E.tx i)) ((beginSt s (E.tx i)).ws (E.tx i)).length).wr x) b = _
        unfold commitK
        rw [List.take_length, show (beginSt s (E.tx i)).ws (E.tx i) = s.ws (E.tx i) from by rw [b2]]
      · have h1 := r2 x
        have h2 := h.len x
        have h3 := hv.ws (E.tx i)
        show (List.foldl (mwW E (s.commits + 1) (E.tx i)) mw (s.ws (E.tx i)) x).length ≤ _
        omega
  · rw [if_neg (by omega), if_neg (by omega), if_neg (by omega), if_neg (by omega)]
    exact hkeep _ b1
end Go.Proofs.Ybulkiec
