/-
  LawS0444BRun: the model's rows, a box beside them, and the model's plain steps.
-/
import Derived.Test.YbulkiecPlain
namespace Go.Proofs.Ybulkiec
open Go.ChangeShapes Go.WideShapes Go.ChangeAt Go.RowKit
set_option linter.unusedVariables false

theorem MM.own_ev {w : World} {F : MEnv} {m : St} {U : Nat → Value} (h : MM w F m U) : w.ownsRow F.base 60 12 (U 0) m.ev.length (evs m.ev) := h.bank.own 0 (by decide)
theorem MM.own_vs {w : World} {F : MEnv} {m : St} {U : Nat → Value} (h : MM w F m U) : w.ownsRow F.base 3 1 (U 10) m.victims.length (ints m.victims) := h.bank.own 10 (by decide)
theorem MM.own_rd {w : World} {F : MEnv} {m : St} {U : Nat → Value} (h : MM w F m U) {x : Nat} (hx : x < 3) : w.ownsRow F.base 3 1 (U (1 + x)) (m.reads x).length (ints (m.reads x)) := by
  have := h.bank.own (1 + x) (by omega)
  rw [conL_rd m hx, conC_rd m hx] at this
  unfold ety esz at this
  rw [if_neg (by omega), if_pos (by omega), if_neg (by omega), if_pos (by omega)] at this
  exact this
theorem MM.own_ws {w : World} {F : MEnv} {m : St} {U : Nat → Value} (h : MM w F m U) {x : Nat} (hx : x < 3) : w.ownsRow F.base 3 1 (U (4 + x)) (m.ws x).length (ints (m.ws x)) := by
  have := h.bank.own (4 + x) (by omega)
  rw [conL_ws m hx, conC_ws m hx] at this
  unfold ety esz at this
  rw [if_neg (by omega), if_pos (by omega), if_neg (by omega), if_pos (by omega)] at this
  exact this
theorem MM.own_wr {w : World} {F : MEnv} {m : St} {U : Nat → Value} (h : MM w F m U) {x : Nat} (hx : x < 3) : w.ownsRow F.base 68 2 (U (7 + x)) (m.wr x).length (prs (m.wr x)) := by
  have := h.bank.own (7 + x) (by omega)
  rw [conL_wr m hx, conC_wr m hx] at this
  unfold ety esz at this
  rw [if_neg (by omega), if_neg (by omega), if_pos (by omega), if_neg (by omega), if_neg (by omega), if_pos (by omega)] at this
  exact this

/-- A box of three cells that belongs to neither memory's footprint. -/
structure Box (w : World) (F : MEnv) (U : Nat → Value) (b : Nat) (v0 v1 v2 : Value) : Prop where
  c0 : w.cell? ⟨b, 0, none⟩ = some v0
  c1 : w.cell? ⟨b, 1, none⟩ = some v1
  c2 : w.cell? ⟨b, 2, none⟩ = some v2
  nf : ¬ MFoot F U b

theorem Box.step {w w' : World} {F : MEnv} {U U' : Nat → Value} {b : Nat} {v0 v1 v2 : Value} (h : Box w F U b v0 v1 v2) (hs : MStep F w U w' U') : Box w' F U' b v0 v1 v2 :=
  ⟨hs.kept.cell h.c0 h.nf, hs.kept.cell h.c1 h.nf, hs.kept.cell h.c2 h.nf, fun hf => (hs.foot b hf).elim h.nf (fun hh => by have := cell_lt h.c0; omega)⟩

theorem MM.fresh {E : Env} {w : World} {F : MEnv} {m : St} {U : Nat → Value} (hl : MLay E F) (h : MM w F m U) : ¬ MFoot F U w.heap.size := fun hf => by
  have := (h.foot_lt hl hf).1
  omega

/-- A new box. -/
theorem Box.new {E : Env} {w : World} {F : MEnv} {m : St} {U : Nat → Value} (hl : MLay E F) (h : MM w F m U) (v0 v1 v2 : Value) (t : TypeId) : Box (w.alloc (Obj.cells #[v0, v1, v2] t)) F U w.heap.size v0 v1 v2 := by
  have r := World.rowIs_alloc w #[v0, v1, v2] t (fun i => (#[v0, v1, v2] : Array Value).getD i undef) (fun i hi => by
    rw [Array.getElem?_eq_getElem hi]
    simp only [Array.getD, hi, dif_pos]
    rfl)
  exact ⟨r.cell (i := 0) (by simp), r.cell (i := 1) (by simp), r.cell (i := 2) (by simp), h.fresh hl⟩

/-! ### The model's plain steps -/
/-- The model's writers beside the program's state. -/
def withW (s : St) (mw : Nat → List (Nat × Nat)) : St := { s with wr := mw }

theorem begin_with (s : St) (mw : Nat → List (Nat × Nat)) (t : Nat) : beginSt (withW s mw) t = withW (beginSt s t) mw := by
  unfold beginSt withW
  by_cases h : s.began t < 0
  · simp [h]
  · simp [h]

theorem model_rd {E : Env} {s : St} {mw : Nat → List (Nat × Nat)} {i : Nat} (ha : E.ac i = 1) : rdSt E (beginSt (withW s mw) (E.tx i)) (E.tx i) i = withW (subSt E s i) (nextMw E s mw i) := by
  unfold subSt nextMw
  rw [if_pos ha, if_neg (by omega), begin_with]
  rfl
theorem model_wt {E : Env} {s : St} {mw : Nat → List (Nat × Nat)} {i : Nat} (ha : E.ac i = 2) : wtSt E (beginSt (withW s mw) (E.tx i)) (E.tx i) i = withW (subSt E s i) (nextMw E s mw i) := by
  unfold subSt nextMw
  rw [if_neg (by omega), if_pos ha, if_neg (by omega), begin_with]
  rfl
theorem model_ab {E : Env} {s : St} {mw : Nat → List (Nat × Nat)} {i : Nat} (ha : E.ac i = 4) : abSt E (beginSt (withW s mw) (E.tx i)) (E.tx i) i = withW (subSt E s i) (nextMw E s mw i) := by
  unfold subSt nextMw
  rw [if_neg (by omega), if_neg (by omega), if_neg (by omega), if_neg (by omega), begin_with]
  rfl
theorem inval_with {E : Env} {s : St} {mw : Nat → List (Nat × Nat)} {i : Nat} (h : WR i s mw) (t : Nat) : inval (beginSt s t).wr ((beginSt s t).began t) ((beginSt s t).reads t) = inval (beginSt (withW s mw) t).wr ((beginSt (withW s mw) t).began t) ((beginSt (withW s mw) t).reads t) := by
  rw [begin_with]
  obtain ⟨b1, b2, b3, b4, b5⟩ := begin_wr s t
  rw [b1]
  exact inval_congr h.same _ _
theorem model_bad {E : Env} {s : St} {mw : Nat → List (Nat × Nat)} {i x wt : Nat} (h : WR i s mw) (ha : E.ac i = 3) (hi : inval (beginSt (withW s mw) (E.tx i)).wr ((beginSt (withW s mw) (E.tx i)).began (E.tx i)) ((beginSt (withW s mw) (E.tx i)).reads (E.tx i)) = some (x, wt)) :
    badSt E (beginSt (withW s mw) (E.tx i)) (E.tx i) ((i : Int) + 1) x wt = withW (subSt E s i) (nextMw E s mw i) := by
  rw [← inval_with (E := E) h] at hi
  unfold subSt nextMw comSt
  rw [if_neg (by omega), if_neg (by omega), if_pos ha, if_pos ha, hi, begin_with]
  rfl

/-- One write of the model's commit. -/
def mStepW (E : Env) (t : Nat) (m : St) (j : Nat) : St := { m with wr := mwW E m.commits t m.wr j, ev := m.ev ++ [exEv ((j : Int) + 1) (E.nm (E.tx j)) 2 (E.it j)] }
def mK (E : Env) (t : Nat) (m : St) (k : Nat) : St := ((m.ws t).take k).foldl (mStepW E t) { m with commits := m.commits + 1 }
def mGood (E : Env) (m : St) (t : Nat) (step : Int) : St :=
  let m2 := mK E t m (m.ws t).length
  { m2 with ev := m2.ev ++ [exEv step (E.nm t) 3 ⟨#[]⟩], ended := upd m2.ended t true, began := upd m2.began t (-1), reads := upd m2.reads t [], ws := upd m2.ws t [] }

theorem mK_zero (E : Env) (t : Nat) (m : St) : mK E t m 0 = { m with commits := m.commits + 1 } := by simp [mK]
theorem mK_succ (E : Env) (t : Nat) (m : St) (k : Nat) (hk : k < (m.ws t).length) : mK E t m (k + 1) = mStepW E t (mK E t m k) ((m.ws t).getD k 0) := by
  unfold mK
  rw [List.take_add_one, List.getElem?_eq_getElem hk, List.foldl_append]
  simp [List.getD, hk]

theorem mfold (E : Env) (t : Nat) (l : List Nat) : ∀ (s : St) (mw : Nat → List (Nat × Nat)) (en : Nat → Bool), l.foldl (mStepW E t) { s with wr := mw, ended := en } = { l.foldl (commitW E t) s with wr := l.foldl (mwW E s.commits t) mw, ended := en } := by
  induction l with
  | nil => intro s mw en; rfl
  | cons j r ih =>
    intro s mw en
    exact ih (commitW E t s j) (mwW E s.commits t mw j) en

/-- What stays and what grows in the model's commit. -/
theorem mfold_rest (E : Env) (t : Nat) (l : List Nat) : ∀ m : St, (l.foldl (mStepW E t) m).commits = m.commits ∧ (l.foldl (mStepW E t) m).ws = m.ws ∧ (l.foldl (mStepW E t) m).ev.length = m.ev.length + l.length ∧ ∀ x, ((l.foldl (mStepW E t) m).wr x).length ≤ (m.wr x).length + l.length := by
  induction l with
  | nil => intro m; exact ⟨rfl, rfl, rfl, fun x => Nat.le_refl _⟩
  | cons j r ih =>
    intro m
    obtain ⟨h1, h2, h3, h4⟩ := ih (mStepW E t m j)
    refine ⟨h1, h2, ?_, fun x => ?_⟩
    · rw [List.foldl_cons, h3]; simp [mStepW]; omega
    · have := h4 x
      rw [List.foldl_cons]
      have h5 : ((mStepW E t m j).wr x).length ≤ (m.wr x).length + 1 := by
        show (upd m.wr (E.ix j) _ x).length ≤ _
        by_cases e : x = E.ix j
        · subst e; rw [upd_same]; simp
        · rw [upd_other _ e]; omega
      simp only [List.length_cons]
      omega

theorem commit_ended (E : Env) (t : Nat) (l : List Nat) : ∀ (s : St) (x : Bool), upd (l.foldl (commitW E t) s).ended t x = upd s.ended t x := by
  induction l with
  | nil => intro s x; rfl
  | cons j r ih =>
    intro s x
    rw [List.foldl_cons, ih (commitW E t s j) x]
    funext u
    show upd (upd s.ended t false) t x u = upd s.ended t x u
    by_cases e : u = t
    · subst e; rw [upd_same, upd_same]
    · rw [upd_other _ e, upd_other _ e, upd_other _ e]

theorem good_with (E : Env) (s : St) (mw : Nat → List (Nat × Nat)) (t : Nat) (step : Int) : mGood E (withW s mw) t step = withW (goodSt E s t step) ((s.ws t).foldl (mwW E (s.commits + 1) t) mw) := by
  have hf := mfold E t (s.ws t) { s with commits := s.commits + 1 } mw s.ended
  have hc := commit_ended E t (s.ws t) { s with commits := s.commits + 1 } true
  have e1 : mK E t (withW s mw) ((withW s mw).ws t).length = (s.ws t).foldl (mStepW E t) { s with commits := s.commits + 1, wr := mw, ended := s.ended } := by
    show (((s.ws t).take (s.ws t).length).foldl (mStepW E t) _) = _
    rw [List.take_length]
    rfl
  have e2 : commitK E t s (s.ws t).length = (s.ws t).foldl (commitW E t) { s with commits := s.commits + 1 } := by
    unfold commitK
    rw [List.take_length]
  unfold mGood goodSt
  rw [e1, e2]
  have e3 : (s.ws t).foldl (mStepW E t) { s with commits := s.commits + 1, wr := mw, ended := s.ended } = { (s.ws t).foldl (commitW E t) { s with commits := s.commits + 1 } with wr := (s.ws t).foldl (mwW E (s.commits + 1) t) mw, ended := s.ended } := hf
  rw [e3]
  unfold endSt withW
  simp only [hc]

theorem model_good {E : Env} {s : St} {mw : Nat → List (Nat × Nat)} {i : Nat} (h : WR i s mw) (ha : E.ac i = 3) (hi : inval (beginSt (withW s mw) (E.tx i)).wr ((beginSt (withW s mw) (E.tx i)).began (E.tx i)) ((beginSt (withW s mw) (E.tx i)).reads (E.tx i)) = none) :
    mGood E (beginSt (withW s mw) (E.tx i)) (E.tx i) ((i : Int) + 1) = withW (subSt E s i) (nextMw E s mw i) := by
  rw [← inval_with (E := E) h] at hi
  obtain ⟨b1, b2, b3, b4, b5⟩ := begin_wr s (E.tx i)
  unfold subSt nextMw comSt
  rw [if_neg (by omega), if_neg (by omega), if_pos ha, if_pos ha, hi, begin_with, good_with, b2, b3]
end Go.Proofs.Ybulkiec
