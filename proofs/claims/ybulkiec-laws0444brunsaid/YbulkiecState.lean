/-
  LawS0444BRun: the plain state, and how it lies in memory.
-/
import Derived.Test.YbulkiecBase
namespace Go.Proofs.Ybulkiec
open Go.ChangeShapes Go.WideShapes Go.ChangeAt Go.RowKit
set_option linter.unusedVariables false

/-! ### Plain data -/
/-- An event, what of it this law's events set. -/
structure Ev where
  kind : Int
  step : Int
  txn : ByteArray
  act : Int
  item : ByteArray
  eitem : ByteArray
  writer : ByteArray

def Ev.cells (e : Ev) : List Value := [.int .u8 e.kind, .int .u8 0, .int .i64 e.step, .string e.txn, .int .u8 e.act, .string e.item, .slice none 0 0, .slice none 0 0, .int .i64 0, .int .i64 0, .string e.eitem, .string e.writer]

/-- The state of a run. -/
structure St where
  ev : List Ev
  commits : Nat
  began : Nat → Int
  reads : Nat → List Nat
  ws : Nat → List Nat
  wr : Nat → List (Nat × Nat)
  ended : Nat → Bool
  victim : Nat → Bool
  victims : List Nat

def upd {α : Type} (f : Nat → α) (j : Nat) (x : α) : Nat → α := fun i => if i = j then x else f i
theorem upd_same {α : Type} (f : Nat → α) (j : Nat) (x : α) : upd f j x j = x := by simp [upd]
theorem upd_other {α : Type} (f : Nat → α) {i j : Nat} (h : i ≠ j) (x : α) : upd f j x i = f i := by simp [upd, h]

def ints (l : List Nat) : List Value := l.map (fun x : Nat => Value.int .i64 (x : Int))
def prs (l : List (Nat × Nat)) : List Value := l.flatMap (fun p : Nat × Nat => [Value.int .i64 (p.1 : Int), Value.int .i64 (p.2 : Int)])
def evs (l : List Ev) : List Value := l.flatMap Ev.cells

def conC (s : St) (j : Nat) : List Value := if j = 0 then evs s.ev else if j < 4 then ints (s.reads (j - 1)) else if j < 7 then ints (s.ws (j - 4)) else if j < 10 then prs (s.wr (j - 7)) else ints s.victims
def conL (s : St) (j : Nat) : Nat := if j = 0 then s.ev.length else if j < 4 then (s.reads (j - 1)).length else if j < 7 then (s.ws (j - 4)).length else if j < 10 then (s.wr (j - 7)).length else s.victims.length

theorem conC_rd (s : St) {t : Nat} (h : t < 3) : conC s (1 + t) = ints (s.reads t) := by
  unfold conC; rw [if_neg (by omega), if_pos (by omega), show 1 + t - 1 = t from by omega]
theorem conL_rd (s : St) {t : Nat} (h : t < 3) : conL s (1 + t) = (s.reads t).length := by
  unfold conL; rw [if_neg (by omega), if_pos (by omega), show 1 + t - 1 = t from by omega]
theorem conC_ws (s : St) {t : Nat} (h : t < 3) : conC s (4 + t) = ints (s.ws t) := by
  unfold conC; rw [if_neg (by omega), if_neg (by omega), if_pos (by omega), show 4 + t - 4 = t from by omega]
theorem conL_ws (s : St) {t : Nat} (h : t < 3) : conL s (4 + t) = (s.ws t).length := by
  unfold conL; rw [if_neg (by omega), if_neg (by omega), if_pos (by omega), show 4 + t - 4 = t from by omega]
theorem conC_wr (s : St) {t : Nat} (h : t < 3) : conC s (7 + t) = prs (s.wr t) := by
  unfold conC; rw [if_neg (by omega), if_neg (by omega), if_neg (by omega), if_pos (by omega), show 7 + t - 7 = t from by omega]
theorem conL_wr (s : St) {t : Nat} (h : t < 3) : conL s (7 + t) = (s.wr t).length := by
  unfold conL; rw [if_neg (by omega), if_neg (by omega), if_neg (by omega), if_pos (by omega), show 7 + t - 7 = t from by omega]
theorem conC_ev (s : St) : conC s 0 = evs s.ev := rfl
theorem conL_ev (s : St) : conL s 0 = s.ev.length := rfl
theorem conC_vi (s : St) : conC s 10 = ints s.victims := rfl
theorem conL_vi (s : St) : conL s 10 = s.victims.length := rfl

/-! ### Eleven slices, each with a row of its own -/
def ety (tw : TypeId) (j : Nat) : TypeId := if j = 0 then 60 else if j < 7 then 3 else if j < 10 then tw else 3
def esz (j : Nat) : Nat := if j = 0 then 12 else if j < 7 then 1 else if j < 10 then 2 else 1

structure Bank (tw : TypeId) (w : World) (base : Nat) (V : Nat → Value) (L : Nat → Nat) (C : Nat → List Value) : Prop where
  own : ∀ j, j < 11 → w.ownsRow base (ety tw j) (esz j) (V j) (L j) (C j)
  apart : ∀ i j, i < 11 → j < 11 → i ≠ j → (V i).ownBlock = none ∨ (V i).ownBlock ≠ (V j).ownBlock

section
variable {tw : TypeId} {w w1 : World} {base : Nat} {V : Nat → Value} {L : Nat → Nat} {C : Nat → List Value}

theorem Bank.congr (h : Bank tw w base V L C) {L' : Nat → Nat} {C' : Nat → List Value} (hL : ∀ j, j < 11 → L j = L' j) (hC : ∀ j, j < 11 → C j = C' j) : Bank tw w base V L' C' :=
  ⟨fun j hj => by rw [← hL j hj, ← hC j hj]; exact h.own j hj, h.apart⟩

theorem Bank.below (h : Bank tw w base V L C) (hb : Below w.heap.size w w1) : Bank tw w1 base V L C :=
  ⟨fun j hj => (h.own j hj).kept (row := none) ⟨hb.os, hb.tape, hb.output, hb.size, fun k hk _ => hb.block k hk⟩ (by cases (V j).ownBlock <;> simp), h.apart⟩

theorem Bank.setCell (h : Bank tw w base V L C) {a : Addr} (ha : a.block < base) (u : Value) : Bank tw (w.setCell a u) base V L C :=
  ⟨fun j hj => ownsRow_setCell_below (h.own j hj) ha u, h.apart⟩

/-- A world that has left every row as it was. -/
theorem Bank.kept (h : Bank tw w base V L C) {p : Nat → Prop} (hk : Kept p w w1) (hp : ∀ j b, j < 11 → (V j).ownBlock = some b → ¬ p b) : Bank tw w1 base V L C := by
  refine ⟨fun j hj => ?_, h.apart⟩
  have ho := h.own j hj
  refine ⟨ho.1, ?_⟩
  rcases ho.2 with hn | ⟨g, cap, cur, hv, hb, hgg, rest⟩
  · exact .inl hn
  · refine .inr ⟨g, cap, cur, hv, hb, ?_, rest⟩
    rw [hk.block g (Array.getElem?_eq_some_iff.1 hgg).1 (hp j g hj (by rw [hv]; rfl))]
    exact hgg

theorem Bank.append (h : Bank tw w base V L C) {j g cap H m : Nat} {news : List Value} (hj : j < 11)
    (hown : w1.ownsRow base (ety tw j) (esz j) (.slice (some ⟨g, 0, none⟩) (L j + m) cap) (L j + m) (C j ++ news)) (hg : w.grownBy w1 (V j).ownBlock) (hat : (V j).ownBlock = some g ∨ g = H) (hH : w.heap.size = H) :
    Bank tw w1 base (upd V j (.slice (some ⟨g, 0, none⟩) (L j + m) cap)) (upd L j (L j + m)) (upd C j (C j ++ news)) := by
  have hlt : ∀ i b, i < 11 → (V i).ownBlock = some b → b < w.heap.size := fun i b hi hb => ((h.own i hi).lt b hb).2
  refine ⟨fun i hi => ?_, fun i k hi hk hne => ?_⟩
  · by_cases e : i = j
    · subst e
      rw [upd_same, upd_same, upd_same]
      exact hown
    · rw [upd_other _ e, upd_other _ e, upd_other _ e]
      exact (h.own i hi).kept hg (h.apart i j hi hj e)
  · by_cases e : i = j
    · subst e
      rw [upd_same, upd_other _ (Ne.symm hne)]
      right
      show some g ≠ _
      intro hc
      rcases hat with h1 | h1
      · rcases h.apart i k hi hk hne with h2 | h2
        · rw [h2] at h1; cases h1
        · exact h2 (h1.trans hc)
      · have := hlt k g hk hc.symm
        omega
    · rw [upd_other _ e]
      by_cases e2 : k = j
      · subst e2
        rw [upd_same]
        cases hv : (V i).ownBlock with
        | none => exact .inl rfl
        | some b =>
          right
          show some b ≠ some g
          intro hc
          cases hc
          rcases hat with h1 | h1
          · rcases h.apart i k hi hk hne with h2 | h2
            · rw [h2] at hv; cases hv
            · exact h2 (hv.trans h1.symm)
          · have := hlt i _ hi hv
            omega
      · rw [upd_other _ e2]
        exact h.apart i k hi hk hne

theorem Bank.nil (h : Bank tw w base V L C) (j : Nat) : Bank tw w base (upd V j (.slice none 0 0)) (upd L j 0) (upd C j []) := by
  refine ⟨fun i hi => ?_, fun i k hi hk hne => ?_⟩
  · by_cases e : i = j
    · subst e
      rw [upd_same, upd_same, upd_same]
      exact World.ownsRow_nil _ _ _ _
    · rw [upd_other _ e, upd_other _ e, upd_other _ e]
      exact h.own i hi
  · by_cases e : i = j
    · subst e
      rw [upd_same]
      exact .inl rfl
    · rw [upd_other _ e]
      by_cases e2 : k = j
      · subst e2
        rw [upd_same]
        cases (V i).ownBlock with
        | none => exact .inl rfl
        | some b => exact .inr (by show some b ≠ none; simp)
      · rw [upd_other _ e2]
        exact h.apart i k hi hk hne
end

/-! ### Where the program's things lie -/
structure Env where
  n : Nat
  bn : Nat
  bi : Nat
  bo : Nat
  bs : Nat
  bt : Nat
  bit : Nat
  bg : Nat
  br : Nat
  be : Nat
  bv : Nat
  brd : Nat
  bws : Nat
  bwr : Nat
  bb : Nat
  base : Nat
  tx : Nat → Nat
  ac : Nat → Int
  io : Nat → Int
  ix : Nat → Nat
  it : Nat → ByteArray
  nm : Nat → ByteArray
  itn : Nat → ByteArray

/-- The blocks' order, and the plain facts on the operations. -/
structure Lay (E : Env) : Prop where
  l1 : E.bn < E.bg
  l2 : E.bi < E.bg
  l3 : E.bo < E.bg
  l4 : E.bs < E.bg
  l5 : E.bt < E.bg
  l6 : E.bit < E.bg
  l7 : E.bg < E.br
  l8 : E.br < E.be
  l9 : E.br < E.bv
  l10 : E.be ≠ E.bv
  l11 : E.be < E.brd
  l12 : E.bv < E.brd
  l13 : E.brd < E.bws
  l14 : E.bws < E.bwr
  l15 : E.bwr < E.bb
  l16 : E.bb < E.base
  n : E.n ≤ 300
  tx : ∀ i, i < E.n → E.tx i < 3
  ac : ∀ i, i < E.n → E.ac i = 1 ∨ E.ac i = 2 ∨ E.ac i = 3 ∨ E.ac i = 4
  io : ∀ i, i < E.n → E.ac i = 1 ∨ E.ac i = 2 → E.io i = (E.ix i : Int) ∧ E.ix i < 3

structure Static (w : World) (E : Env) : Prop where
  sc : w.cell? ⟨E.bs, 0, none⟩ = some (.slice (some ⟨E.bo, 0, none⟩) E.n E.n)
  o0 : ∀ i, i < E.n → w.cell? ⟨E.bo, i * 3, none⟩ = some (.string (E.nm (E.tx i)))
  o1 : ∀ i, i < E.n → w.cell? ⟨E.bo, i * 3 + 1, none⟩ = some (.int .u8 (E.ac i))
  o2 : ∀ i, i < E.n → w.cell? ⟨E.bo, i * 3 + 2, none⟩ = some (.string (E.it i))
  tx : ∀ i, i < E.n → w.cell? ⟨E.bt, i, none⟩ = some (.int .i64 (E.tx i : Int))
  io : ∀ i, i < E.n → w.cell? ⟨E.bit, i, none⟩ = some (.int .i64 (E.io i))
  nm : ∀ t, t < 3 → w.cell? ⟨E.bn, t, none⟩ = some (.string (E.nm t))
  im : ∀ t, t < 3 → w.cell? ⟨E.bi, t, none⟩ = some (.string (E.itn t))

theorem Static.kept {w w1 : World} {E : Env} (h : Static w E) {p : Nat → Prop} (hk : Kept p w w1) (h1 : ¬ p E.bs) (h2 : ¬ p E.bo) (h3 : ¬ p E.bt) (h4 : ¬ p E.bit) (h5 : ¬ p E.bn) (h6 : ¬ p E.bi) : Static w1 E :=
  ⟨hk.cell h.sc h1, fun i hi => hk.cell (h.o0 i hi) h2, fun i hi => hk.cell (h.o1 i hi) h2, fun i hi => hk.cell (h.o2 i hi) h2, fun i hi => hk.cell (h.tx i hi) h3, fun i hi => hk.cell (h.io i hi) h4, fun i hi => hk.cell (h.nm i hi) h5, fun i hi => hk.cell (h.im i hi) h6⟩

/-- The twenty cells of the 'optimistic'. -/
def rcell (E : Env) (cm : Nat) (v : Value) : Nat → Value
  | 0 => .pointer (some ⟨E.bs, 0, none⟩)
  | 1 => .slice (some ⟨E.bn, 0, none⟩) 3 3
  | 2 => .slice (some ⟨E.bt, 0, none⟩) E.n E.n
  | 3 => .slice none 0 0
  | 4 => .slice none 0 0
  | 5 => .slice (some ⟨E.bi, 0, none⟩) 3 3
  | 6 => .slice (some ⟨E.bit, 0, none⟩) E.n E.n
  | 7 => .nilIface
  | 8 => .func (Fn.func 5) #[] #[.pointer (some ⟨E.bg, 0, none⟩)]
  | 9 => .bool false
  | 10 => .slice (some ⟨E.be, 0, none⟩) 3 3
  | 11 => .slice (some ⟨E.bv, 0, none⟩) 3 3
  | 12 => v
  | 13 => .slice none 0 0
  | 14 => .pointer none
  | 15 => .int .i64 (cm : Int)
  | 16 => .slice (some ⟨E.bb, 0, none⟩) 3 3
  | 17 => .slice (some ⟨E.brd, 0, none⟩) 3 3
  | 18 => .slice (some ⟨E.bws, 0, none⟩) 3 3
  | _ => .slice (some ⟨E.bwr, 0, none⟩) 3 3

theorem rcell_v (E : Env) (cm : Nat) (v v' : Value) (i : Nat) (h : i ≠ 12) : rcell E cm v' i = rcell E cm v i := by
  unfold rcell
  split <;> first | rfl | exact absurd rfl h
theorem rcell_c (E : Env) (cm cm' : Nat) (v : Value) (i : Nat) (h : i ≠ 15) : rcell E cm' v i = rcell E cm v i := by
  unfold rcell
  split <;> first | rfl | exact absurd rfl h

/-- The blocks of fixed place. -/
structure Fix (w : World) (E : Env) (cm : Nat) (en vi : Nat → Bool) (bg : Nat → Int) (V : Nat → Value) : Prop where
  r : w.rowIs E.br 56 20 (rcell E cm (V 10))
  en : w.rowIs E.be 4 3 (fun t => .bool (en t))
  vi : w.rowIs E.bv 4 3 (fun t => .bool (vi t))
  bg : w.rowIs E.bb 3 3 (fun t => .int .i64 (bg t))
  rd : w.rowIs E.brd 28 3 (fun t => V (1 + t))
  ws : w.rowIs E.bws 28 3 (fun t => V (4 + t))
  wr : w.rowIs E.bwr 80 3 (fun t => V (7 + t))
  got : w.rowIs E.bg 40 1 (fun _ => V 0)
  st : Static w E
  size : E.base ≤ w.heap.size

def fixed (E : Env) (b : Nat) : Prop := b = E.br ∨ b = E.be ∨ b = E.bv ∨ b = E.bb ∨ b = E.brd ∨ b = E.bws ∨ b = E.bwr ∨ b = E.bg

theorem rowIs_keep {p : Nat → Prop} {w w1 : World} {b n : Nat} {t : TypeId} {f : Nat → Value} (h : w.rowIs b t n f) (hk : Kept p w w1) (hn : ¬ p b) : w1.rowIs b t n f := h.of_block (hk.block b h.lt hn)

theorem Fix.kept {w w1 : World} {E : Env} {cm : Nat} {en vi : Nat → Bool} {bg : Nat → Int} {V : Nat → Value} (hl : Lay E) (h : Fix w E cm en vi bg V) {p : Nat → Prop} (hk : Kept p w w1) (hp : ∀ b, b < E.base → ¬ p b) : Fix w1 E cm en vi bg V := by
  obtain ⟨l1, l2, l3, l4, l5, l6, l7, l8, l9, l10, l11, l12, l13, l14, l15, l16, _⟩ := hl
  exact ⟨rowIs_keep h.r hk (hp _ (by omega)), rowIs_keep h.en hk (hp _ (by omega)), rowIs_keep h.vi hk (hp _ (by omega)), rowIs_keep h.bg hk (hp _ (by omega)), rowIs_keep h.rd hk (hp _ (by omega)), rowIs_keep h.ws hk (hp _ (by omega)),
    rowIs_keep h.wr hk (hp _ (by omega)), rowIs_keep h.got hk (hp _ (by omega)), h.st.kept hk (hp _ (by omega)) (hp _ (by omega)) (hp _ (by omega)) (hp _ (by omega)) (hp _ (by omega)) (hp _ (by omega)), Nat.le_trans h.size hk.size⟩

/-- A flag 'ended' is set. -/
theorem Fix.st_en {w : World} {E : Env} {cm : Nat} {en vi : Nat → Bool} {bg : Nat → Int} {V : Nat → Value} (hl : Lay E) (h : Fix w E cm en vi bg V) (t : Nat) (x : Bool) : Fix (w.setCell ⟨E.be, t, none⟩ (.bool x)) E cm (upd en t x) vi bg V := by
  obtain ⟨l1, l2, l3, l4, l5, l6, l7, l8, l9, l10, l11, l12, l13, l14, l15, l16, _⟩ := hl
  have hk : Kept (fun b => b = E.be) w (w.setCell ⟨E.be, t, none⟩ (.bool x)) := Kept.setCell (p := fun b => b = E.be) rfl _
  refine ⟨rowIs_keep h.r hk (by show ¬ _ = _; omega), ?_, rowIs_keep h.vi hk (by show ¬ _ = _; omega), rowIs_keep h.bg hk (by show ¬ _ = _; omega), rowIs_keep h.rd hk (by show ¬ _ = _; omega), rowIs_keep h.ws hk (by show ¬ _ = _; omega), rowIs_keep h.wr hk (by show ¬ _ = _; omega), rowIs_keep h.got hk (by show ¬ _ = _; omega), h.st.kept hk (by show ¬ _ = _; omega) (by show ¬ _ = _; omega) (by show ¬ _ = _; omega) (by show ¬ _ = _; omega) (by show ¬ _ = _; omega) (by show ¬ _ = _; omega), Nat.le_trans h.size hk.size⟩
  exact (h.en.set t _).congr (fun i _ => by unfold upd; by_cases e : i = t <;> simp [e])

/-- A flag 'victim' is set. -/
theorem Fix.st_vi {w : World} {E : Env} {cm : Nat} {en vi : Nat → Bool} {bg : Nat → Int} {V : Nat → Value} (hl : Lay E) (h : Fix w E cm en vi bg V) (t : Nat) (x : Bool) : Fix (w.setCell ⟨E.bv, t, none⟩ (.bool x)) E cm en (upd vi t x) bg V := by
  obtain ⟨l1, l2, l3, l4, l5, l6, l7, l8, l9, l10, l11, l12, l13, l14, l15, l16, _⟩ := hl
  have hk : Kept (fun b => b = E.bv) w (w.setCell ⟨E.bv, t, none⟩ (.bool x)) := Kept.setCell (p := fun b => b = E.bv) rfl _
  refine ⟨rowIs_keep h.r hk (by show ¬ _ = _; omega), rowIs_keep h.en hk (by show ¬ _ = _; omega), ?_, rowIs_keep h.bg hk (by show ¬ _ = _; omega), rowIs_keep h.rd hk (by show ¬ _ = _; omega), rowIs_keep h.ws hk (by show ¬ _ = _; omega), rowIs_keep h.wr hk (by show ¬ _ = _; omega), rowIs_keep h.got hk (by show ¬ _ = _; omega), h.st.kept hk (by show ¬ _ = _; omega) (by show ¬ _ = _; omega) (by show ¬ _ = _; omega) (by show ¬ _ = _; omega) (by show ¬ _ = _; omega) (by show ¬ _ = _; omega), Nat.le_trans h.size hk.size⟩
  exact (h.vi.set t _).congr (fun i _ => by unfold upd; by_cases e : i = t <;> simp [e])

/-- A 'began' is set. -/
theorem Fix.st_bg {w : World} {E : Env} {cm : Nat} {en vi : Nat → Bool} {bg : Nat → Int} {V : Nat → Value} (hl : Lay E) (h : Fix w E cm en vi bg V) (t : Nat) (x : Int) : Fix (w.setCell ⟨E.bb, t, none⟩ (.int .i64 x)) E cm en vi (upd bg t x) V := by
  obtain ⟨l1, l2, l3, l4, l5, l6, l7, l8, l9, l10, l11, l12, l13, l14, l15, l16, _⟩ := hl
  have hk : Kept (fun b => b = E.bb) w (w.setCell ⟨E.bb, t, none⟩ (.int .i64 x)) := Kept.setCell (p := fun b => b = E.bb) rfl _
  refine ⟨rowIs_keep h.r hk (by show ¬ _ = _; omega), rowIs_keep h.en hk (by show ¬ _ = _; omega), rowIs_keep h.vi hk (by show ¬ _ = _; omega), ?_, rowIs_keep h.rd hk (by show ¬ _ = _; omega), rowIs_keep h.ws hk (by show ¬ _ = _; omega), rowIs_keep h.wr hk (by show ¬ _ = _; omega), rowIs_keep h.got hk (by show ¬ _ = _; omega), h.st.kept hk (by show ¬ _ = _; omega) (by show ¬ _ = _; omega) (by show ¬ _ = _; omega) (by show ¬ _ = _; omega) (by show ¬ _ = _; omega) (by show ¬ _ = _; omega), Nat.le_trans h.size hk.size⟩
  exact (h.bg.set t _).congr (fun i _ => by unfold upd; by_cases e : i = t <;> simp [e])

/-- The count of commits is set. -/
theorem Fix.st_cm {w : World} {E : Env} {cm : Nat} {en vi : Nat → Bool} {bg : Nat → Int} {V : Nat → Value} (hl : Lay E) (h : Fix w E cm en vi bg V) (x : Nat) : Fix (w.setCell ⟨E.br, 15, none⟩ (.int .i64 (x : Int))) E x en vi bg V := by
  obtain ⟨l1, l2, l3, l4, l5, l6, l7, l8, l9, l10, l11, l12, l13, l14, l15, l16, _⟩ := hl
  have hk : Kept (fun b => b = E.br) w (w.setCell ⟨E.br, 15, none⟩ (.int .i64 (x : Int))) := Kept.setCell (p := fun b => b = E.br) rfl _
  refine ⟨?_, rowIs_keep h.en hk (by show ¬ _ = _; omega), rowIs_keep h.vi hk (by show ¬ _ = _; omega), rowIs_keep h.bg hk (by show ¬ _ = _; omega), rowIs_keep h.rd hk (by show ¬ _ = _; omega), rowIs_keep h.ws hk (by show ¬ _ = _; omega), rowIs_keep h.wr hk (by show ¬ _ = _; omega), rowIs_keep h.got hk (by show ¬ _ = _; omega), h.st.kept hk (by show ¬ _ = _; omega) (by show ¬ _ = _; omega) (by show ¬ _ = _; omega) (by show ¬ _ = _; omega) (by show ¬ _ = _; omega) (by show ¬ _ = _; omega), Nat.le_trans h.size hk.size⟩
  refine (h.r.set 15 _).congr (fun i _ => ?_)
  show (if i = 15 then Value.int .i64 (x : Int) else rcell E cm (V 10) i) = rcell E x (V 10) i
  by_cases e : i = 15
  · subst e; rfl
  · rw [if_neg e, rcell_c E cm x _ i e]

/-- 'stopped' stays false. -/
theorem Fix.st_stop {w : World} {E : Env} {cm : Nat} {en vi : Nat → Bool} {bg : Nat → Int} {V : Nat → Value} (hl : Lay E) (h : Fix w E cm en vi bg V) : Fix (w.setCell ⟨E.br, 9, none⟩ (.bool false)) E cm en vi bg V := by
  obtain ⟨l1, l2, l3, l4, l5, l6, l7, l8, l9, l10, l11, l12, l13, l14, l15, l16, _⟩ := hl
  have hk : Kept (fun b => b = E.br) w (w.setCell ⟨E.br, 9, none⟩ (.bool false)) := Kept.setCell (p := fun b => b = E.br) rfl _
  refine ⟨?_, rowIs_keep h.en hk (by show ¬ _ = _; omega), rowIs_keep h.vi hk (by show ¬ _ = _; omega), rowIs_keep h.bg hk (by show ¬ _ = _; omega), rowIs_keep h.rd hk (by show ¬ _ = _; omega), rowIs_keep h.ws hk (by show ¬ _ = _; omega), rowIs_keep h.wr hk (by show ¬ _ = _; omega), rowIs_keep h.got hk (by show ¬ _ = _; omega), h.st.kept hk (by show ¬ _ = _; omega) (by show ¬ _ = _; omega) (by show ¬ _ = _; omega) (by show ¬ _ = _; omega) (by show ¬ _ = _; omega) (by show ¬ _ = _; omega), Nat.le_trans h.size hk.size⟩
  refine (h.r.set 9 _).congr (fun i _ => ?_)
  show (if i = 9 then Value.bool false else rcell E cm (V 10) i) = rcell E cm (V 10) i
  by_cases e : i = 9
  · subst e; rfl
  · rw [if_neg e]

/-- A header among 'rd' is set. -/
theorem Fix.st_rd {w : World} {E : Env} {cm : Nat} {en vi : Nat → Bool} {bg : Nat → Int} {V : Nat → Value} (hl : Lay E) (h : Fix w E cm en vi bg V) (t : Nat) (ht : t < 3) (v : Value) : Fix (w.setCell ⟨E.brd, t, none⟩ v) E cm en vi bg (upd V (1 + t) v) := by
  obtain ⟨l1, l2, l3, l4, l5, l6, l7, l8, l9, l10, l11, l12, l13, l14, l15, l16, _⟩ := hl
  have hk : Kept (fun b => b = E.brd) w (w.setCell ⟨E.brd, t, none⟩ v) := Kept.setCell (p := fun b => b = E.brd) rfl _
  refine ⟨((rowIs_keep h.r hk (by show ¬ _ = _; omega)).congr (fun i hi => by show rcell E cm (V 10) i = rcell E cm (upd V (1 + t) v 10) i; rw [upd_other _ (by omega)])), rowIs_keep h.en hk (by show ¬ _ = _; omega), rowIs_keep h.vi hk (by show ¬ _ = _; omega), rowIs_keep h.bg hk (by show ¬ _ = _; omega), ?_, ((rowIs_keep h.ws hk (by show ¬ _ = _; omega)).congr (fun i hi => by show V (4 + i) = upd V (1 + t) v (4 + i); rw [upd_other _ (by omega)])), ((rowIs_keep h.wr hk (by show ¬ _ = _; omega)).congr (fun i hi => by show V (7 + i) = upd V (1 + t) v (7 + i); rw [upd_other _ (by omega)])), ((rowIs_keep h.got hk (by show ¬ _ = _; omega)).congr (fun i hi => by show V 0 = upd V (1 + t) v 0; rw [upd_other _ (by omega)])), h.st.kept hk (by show ¬ _ = _; omega) (by show ¬ _ = _; omega) (by show ¬ _ = _; omega) (by show ¬ _ = _; omega) (by show ¬ _ = _; omega) (by show ¬ _ = _; omega), Nat.le_trans h.size hk.size⟩
  refine (h.rd.set t _).congr (fun i _ => ?_)
  show (if i = t then v else V (1 + i)) = upd V (1 + t) v (1 + i)
  by_cases e : i = t
  · subst e; rw [upd_same, if_pos rfl]
  · rw [if_neg e, upd_other _ (by omega)]

/-- A header among 'ws' is set. -/
theorem Fix.st_ws {w : World} {E : Env} {cm : Nat} {en vi : Nat → Bool} {bg : Nat → Int} {V : Nat → Value} (hl : Lay E) (h : Fix w E cm en vi bg V) (t : Nat) (ht : t < 3) (v : Value) : Fix (w.setCell ⟨E.bws, t, none⟩ v) E cm en vi bg (upd V (4 + t) v) := by
  obtain ⟨l1, l2, l3, l4, l5, l6, l7, l8, l9, l10, l11, l12, l13, l14, l15, l16, _⟩ := hl
  have hk : Kept (fun b => b = E.bws) w (w.setCell ⟨E.bws, t, none⟩ v) := Kept.setCell (p := fun b => b = E.bws) rfl _
  refine ⟨((rowIs_keep h.r hk (by show ¬ _ = _; omega)).congr (fun i hi => by show rcell E cm (V 10) i = rcell E cm (upd V (4 + t) v 10) i; rw [upd_other _ (by omega)])), rowIs_keep h.en hk (by show ¬ _ = _; omega), rowIs_keep h.vi hk (by show ¬ _ = _; omega), rowIs_keep h.bg hk (by show ¬ _ = _; omega), ((rowIs_keep h.rd hk (by show ¬ _ = _; omega)).congr (fun i hi => by show V (1 + i) = upd V (4 + t) v (1 + i); rw [upd_other _ (by omega)])), ?_, ((rowIs_keep h.wr hk (by show ¬ _ = _; omega)).congr (fun i hi => by show V (7 + i) = upd V (4 + t) v (7 + i); rw [upd_other _ (by omega)])), ((rowIs_keep h.got hk (by show ¬ _ = _; omega)).congr (fun i hi => by show V 0 = upd V (4 + t) v 0; rw [upd_other _ (by omega)])), h.st.kept hk (by show ¬ _ = _; omega) (by show ¬ _ = _; omega) (by show ¬ _ = _; omega) (by show ¬ _ = _; omega) (by show ¬ _ = _; omega) (by show ¬ _ = _; omega), Nat.le_trans h.size hk.size⟩
  refine (h.ws.set t _).congr (fun i _ => ?_)
  show (if i = t then v else V (4 + i)) = upd V (4 + t) v (4 + i)
  by_cases e : i = t
  · subst e; rw [upd_same, if_pos rfl]
  · rw [if_neg e, upd_other _ (by omega)]

/-- A header among 'wr' is set. -/
theorem Fix.st_wr {w : World} {E : Env} {cm : Nat} {en vi : Nat → Bool} {bg : Nat → Int} {V : Nat → Value} (hl : Lay E) (h : Fix w E cm en vi bg V) (t : Nat) (ht : t < 3) (v : Value) : Fix (w.setCell ⟨E.bwr, t, none⟩ v) E cm en vi bg (upd V (7 + t) v) := by
  obtain ⟨l1, l2, l3, l4, l5, l6, l7, l8, l9, l10, l11, l12, l13, l14, l15, l16, _⟩ := hl
  have hk : Kept (fun b => b = E.bwr) w (w.setCell ⟨E.bwr, t, none⟩ v) := Kept.setCell (p := fun b => b = E.bwr) rfl _
  refine ⟨((rowIs_keep h.r hk (by show ¬ _ = _; omega)).congr (fun i hi => by show rcell E cm (V 10) i = rcell E cm (upd V (7 + t) v 10) i; rw [upd_other _ (by omega)])), rowIs_keep h.en hk (by show ¬ _ = _; omega), rowIs_keep h.vi hk (by show ¬ _ = _; omega), rowIs_keep h.bg hk (by show ¬ _ = _; omega), ((rowIs_keep h.rd hk (by show ¬ _ = _; omega)).congr (fun i hi => by show V (1 + i) = upd V (7 + t) v (1 + i); rw [upd_other _ (by omega)])), ((rowIs_keep h.ws hk (by show ¬ _ = _; omega)).congr (fun i hi => by show V (4 + i) = upd V (7 + t) v (4 + i); rw [upd_other _ (by omega)])), ?_, ((rowIs_keep h.got hk (by show ¬ _ = _; omega)).congr (fun i hi => by show V 0 = upd V (7 + t) v 0; rw [upd_other _ (by omega)])), h.st.kept hk (by show ¬ _ = _; omega) (by show ¬ _ = _; omega) (by show ¬ _ = _; omega) (by show ¬ _ = _; omega) (by show ¬ _ = _; omega) (by show ¬ _ = _; omega), Nat.le_trans h.size hk.size⟩
  refine (h.wr.set t _).congr (fun i _ => ?_)
  show (if i = t then v else V (7 + i)) = upd V (7 + t) v (7 + i)
  by_cases e : i = t
  · subst e; rw [upd_same, if_pos rfl]
  · rw [if_neg e, upd_other _ (by omega)]

/-- The variable 'got' is set. -/
theorem Fix.st_got {w : World} {E : Env} {cm : Nat} {en vi : Nat → Bool} {bg : Nat → Int} {V : Nat → Value} (hl : Lay E) (h : Fix w E cm en vi bg V) (v : Value) : Fix (w.setCell ⟨E.bg, 0, none⟩ v) E cm en vi bg (upd V 0 v) := by
  obtain ⟨l1, l2, l3, l4, l5, l6, l7, l8, l9, l10, l11, l12, l13, l14, l15, l16, _⟩ := hl
  have hk : Kept (fun b => b = E.bg) w (w.setCell ⟨E.bg, 0, none⟩ v) := Kept.setCell (p := fun b => b = E.bg) rfl _
  refine ⟨((rowIs_keep h.r hk (by show ¬ _ = _; omega)).congr (fun i hi => by show rcell E cm (V 10) i = rcell E cm (upd V 0 v 10) i; rw [upd_other _ (by omega)])), rowIs_keep h.en hk (by show ¬ _ = _; omega), rowIs_keep h.vi hk (by show ¬ _ = _; omega), rowIs_keep h.bg hk (by show ¬ _ = _; omega), ((rowIs_keep h.rd hk (by show ¬ _ = _; omega)).congr (fun i hi => by show V (1 + i) = upd V 0 v (1 + i); rw [upd_other _ (by omega)])), ((rowIs_keep h.ws hk (by show ¬ _ = _; omega)).congr (fun i hi => by show V (4 + i) = upd V 0 v (4 + i); rw [upd_other _ (by omega)])), ((rowIs_keep h.wr hk (by show ¬ _ = _; omega)).congr (fun i hi => by show V (7 + i) = upd V 0 v (7 + i); rw [upd_other _ (by omega)])), ?_, h.st.kept hk (by show ¬ _ = _; omega) (by show ¬ _ = _; omega) (by show ¬ _ = _; omega) (by show ¬ _ = _; omega) (by show ¬ _ = _; omega) (by show ¬ _ = _; omega), Nat.le_trans h.size hk.size⟩
  refine (h.got.set 0 _).congr (fun i hi => ?_)
  show (if i = 0 then v else V 0) = upd V 0 v 0
  rw [upd_same, if_pos (by omega)]

/-- The header 'victims' is set. -/
theorem Fix.st_vs {w : World} {E : Env} {cm : Nat} {en vi : Nat → Bool} {bg : Nat → Int} {V : Nat → Value} (hl : Lay E) (h : Fix w E cm en vi bg V) (v : Value) : Fix (w.setCell ⟨E.br, 12, none⟩ v) E cm en vi bg (upd V 10 v) := by
  obtain ⟨l1, l2, l3, l4, l5, l6, l7, l8, l9, l10, l11, l12, l13, l14, l15, l16, _⟩ := hl
  have hk : Kept (fun b => b = E.br) w (w.setCell ⟨E.br, 12, none⟩ v) := Kept.setCell (p := fun b => b = E.br) rfl _
  refine ⟨?_, rowIs_keep h.en hk (by show ¬ _ = _; omega), rowIs_keep h.vi hk (by show ¬ _ = _; omega), rowIs_keep h.bg hk (by show ¬ _ = _; omega), ((rowIs_keep h.rd hk (by show ¬ _ = _; omega)).congr (fun i hi => by show V (1 + i) = upd V 10 v (1 + i); rw [upd_other _ (by omega)])), ((rowIs_keep h.ws hk (by show ¬ _ = _; omega)).congr (fun i hi => by show V (4 + i) = upd V 10 v (4 + i); rw [upd_other _ (by omega)])), ((rowIs_keep h.wr hk (by show ¬ _ = _; omega)).congr (fun i hi => by show V (7 + i) = upd V 10 v (7 + i); rw [upd_other _ (by omega)])), ((rowIs_keep h.got hk (by show ¬ _ = _; omega)).congr (fun i hi => by show V 0 = upd V 10 v 0; rw [upd_other _ (by omega)])), h.st.kept hk (by show ¬ _ = _; omega) (by show ¬ _ = _; omega) (by show ¬ _ = _; omega) (by show ¬ _ = _; omega) (by show ¬ _ = _; omega) (by show ¬ _ = _; omega), Nat.le_trans h.size hk.size⟩
  refine (h.r.set 12 _).congr (fun i _ => ?_)
  show (if i = 12 then v else rcell E cm (V 10) i) = rcell E cm (upd V 10 v 10) i
  rw [upd_same]
  by_cases e : i = 12
  · subst e; rfl
  · rw [if_neg e, rcell_v E cm (V 10) v i e]

/-! ### The program's memory -/
structure PM (w : World) (E : Env) (s : St) (V : Nat → Value) : Prop where
  bank : Bank 82 w E.base V (conL s) (conC s)
  fix : Fix w E s.commits s.ended s.victim s.began V

/-- The blocks that the program's functions may write. -/
def Foot (E : Env) (V : Nat → Value) (b : Nat) : Prop := fixed E b ∨ ∃ j, j < 11 ∧ (V j).ownBlock = some b

/-- From (w, V) to (w', V'): only the footprint was written; the new footprint is the old one and new blocks. -/
structure Step (E : Env) (w : World) (V : Nat → Value) (w' : World) (V' : Nat → Value) : Prop where
  kept : Kept (Foot E V) w w'
  foot : ∀ b, Foot E V' b → Foot E V b ∨ w.heap.size ≤ b

theorem Step.refl (E : Env) (w : World) (V : Nat → Value) : Step E w V w V := ⟨Kept.refl _ _, fun _ h => .inl h⟩
theorem Step.trans {E : Env} {w w1 w2 : World} {V V1 V2 : Nat → Value} (h : Step E w V w1 V1) (k : Step E w1 V1 w2 V2) : Step E w V w2 V2 := by
  refine ⟨⟨k.kept.os.trans h.kept.os, k.kept.tape.trans h.kept.tape, k.kept.output.trans h.kept.output, Nat.le_trans h.kept.size k.kept.size, fun b hb hn => ?_⟩, fun b hb => ?_⟩
  · have hn1 : ¬ Foot E V1 b := fun hf => by
      rcases h.foot b hf with h1 | h1
      · exact hn h1
      · omega
    exact (k.kept.block b (Nat.lt_of_lt_of_le hb h.kept.size) hn1).trans (h.kept.block b hb hn)
  · rcases k.foot b hb with h1 | h1
    · exact h.foot b h1
    · exact .inr (Nat.le_trans h.kept.size h1)
theorem Step.of_below {E : Env} {w w' : World} {V : Nat → Value} (h : Below w.heap.size w w') : Step E w V w' V := ⟨Kept.of_below h, fun _ h => .inl h⟩
theorem Step.set {E : Env} {w : World} {V : Nat → Value} {b o : Nat} (hb : fixed E b) (v : Value) : Step E w V (w.setCell ⟨b, o, none⟩ v) V := ⟨Kept.setCell (Or.inl hb) _, fun _ h => .inl h⟩

theorem PM.below {w w1 : World} {E : Env} {s : St} {V : Nat → Value} (hl : Lay E) (h : PM w E s V) (hb : Below w.heap.size w w1) : PM w1 E s V :=
  ⟨h.bank.below hb, h.fix.kept hl (Kept.of_below (p := fun _ => False) hb) (fun _ _ hf => hf)⟩

/-- Behind an append to slice j: the bank; the fixed blocks as they were; the step. -/
theorem PM.appended {w w1 : World} {E : Env} {s : St} {V : Nat → Value} (hl : Lay E) (h : PM w E s V) {j g cap H m : Nat} {news : List Value} (hj : j < 11)
    (hown : w1.ownsRow E.base (ety 82 j) (esz j) (.slice (some ⟨g, 0, none⟩) (conL s j + m) cap) (conL s j + m) (conC s j ++ news)) (hg : w.grownBy w1 (V j).ownBlock) (hat : (V j).ownBlock = some g ∨ g = H) (hH : w.heap.size = H) :
    Bank 82 w1 E.base (upd V j (.slice (some ⟨g, 0, none⟩) (conL s j + m) cap)) (upd (conL s) j (conL s j + m)) (upd (conC s) j (conC s j ++ news)) ∧ Fix w1 E s.commits s.ended s.victim s.began V ∧
    Step E w V w1 (upd V j (.slice (some ⟨g, 0, none⟩) (conL s j + m) cap)) := by
  have hrow : ∀ k, (V j).ownBlock = some k → E.base ≤ k := fun k e => ((h.bank.own j hj).lt k e).1
  refine ⟨h.bank.append hj hown hg hat hH, h.fix.kept hl (Kept.grown (p := fun b => E.base ≤ b) hg hrow) (fun b hb hf => by omega), ⟨Kept.grown hg (fun k e => .inr ⟨j, hj, e⟩), fun b hb => ?_⟩⟩
  rcases hb with hb | ⟨i, hi, hb⟩
  · exact .inl (.inl hb)
  · by_cases e : i = j
    · subst e
      rw [upd_same] at hb
      have hb' : g = b := by
        have : some g = some b := hb
        injection this
      rcases hat with h1 | h1
      · exact .inl (.inr ⟨i, hi, by rw [h1, hb']⟩)
      · exact .inr (by omega)
    · rw [upd_other _ e] at hb
      exact .inl (.inr ⟨i, hi, hb⟩)

/-- A header is made nil: the footprint shrinks. -/
theorem foot_nil {E : Env} {V : Nat → Value} {j b : Nat} (h : Foot E (upd V j (.slice none 0 0)) b) : Foot E V b := by
  rcases h with h | ⟨i, hi, h⟩
  · exact .inl h
  · by_cases e : i = j
    · subst e
      rw [upd_same] at h
      cases h
    · rw [upd_other _ e] at h
      exact .inr ⟨i, hi, h⟩
end Go.Proofs.Ybulkiec
