/-
  LawS0444BRun: the model's memory, and both memories beside each other.
-/
import Derived.Test.YbulkiecSub
namespace Go.Proofs.Ybulkiec
open Go.ChangeShapes Go.WideShapes Go.ChangeAt Go.RowKit
set_option linter.unusedVariables false

/-- Where the model's six arrays lie. -/
structure MEnv where
  mb : Nat
  mr : Nat
  ms : Nat
  mw : Nat
  mv : Nat
  me : Nat
  base : Nat

structure MLay (E : Env) (F : MEnv) : Prop where
  k0 : E.base ≤ F.mb
  k1 : F.mb < F.mr
  k2 : F.mr < F.ms
  k3 : F.ms < F.mw
  k4 : F.mw < F.mv
  k5 : F.mv < F.me
  k6 : F.me < F.base

structure MFix (w : World) (F : MEnv) (m : St) (U : Nat → Value) : Prop where
  bg : w.rowIs F.mb 61 3 (fun t => .int .i64 (m.began t))
  rd : w.rowIs F.mr 62 3 (fun t => U (1 + t))
  ws : w.rowIs F.ms 62 3 (fun t => U (4 + t))
  wr : w.rowIs F.mw 64 3 (fun t => U (7 + t))
  vi : w.rowIs F.mv 65 3 (fun t => .bool (m.victim t))
  en : w.rowIs F.me 65 3 (fun t => .bool (m.ended t))
  size : F.base ≤ w.heap.size

structure MM (w : World) (F : MEnv) (m : St) (U : Nat → Value) : Prop where
  bank : Bank 68 w F.base U (conL m) (conC m)
  fix : MFix w F m U

def mfixed (F : MEnv) (b : Nat) : Prop := b = F.mb ∨ b = F.mr ∨ b = F.ms ∨ b = F.mw ∨ b = F.mv ∨ b = F.me
def MFoot (F : MEnv) (U : Nat → Value) (b : Nat) : Prop := mfixed F b ∨ ∃ j, j < 11 ∧ (U j).ownBlock = some b

structure MStep (F : MEnv) (w : World) (U : Nat → Value) (w' : World) (U' : Nat → Value) : Prop where
  kept : Kept (MFoot F U) w w'
  foot : ∀ b, MFoot F U' b → MFoot F U b ∨ w.heap.size ≤ b

theorem MStep.of_below {F : MEnv} {w w' : World} {U : Nat → Value} (h : Below w.heap.size w w') : MStep F w U w' U := ⟨Kept.of_below h, fun _ h => .inl h⟩
theorem MStep.set {F : MEnv} {w : World} {U : Nat → Value} {b o : Nat} (hb : mfixed F b) (v : Value) : MStep F w U (w.setCell ⟨b, o, none⟩ v) U := ⟨Kept.setCell (Or.inl hb) _, fun _ h => .inl h⟩
theorem MStep.trans {F : MEnv} {w w1 w2 : World} {V V1 V2 : Nat → Value} (h : MStep F w V w1 V1) (k : MStep F w1 V1 w2 V2) : MStep F w V w2 V2 := by
  refine ⟨⟨k.kept.os.trans h.kept.os, k.kept.tape.trans h.kept.tape, k.kept.output.trans h.kept.output, Nat.le_trans h.kept.size k.kept.size, fun b hb hn => ?_⟩, fun b hb => ?_⟩
  · have hn1 : ¬ MFoot F V1 b := fun hf => by
      rcases h.foot b hf with h1 | h1
      · exact hn h1
      · omega
    exact (k.kept.block b (Nat.lt_of_lt_of_le hb h.kept.size) hn1).trans (h.kept.block b hb hn)
  · rcases k.foot b hb with h1 | h1
    · exact h.foot b h1
    · exact .inr (Nat.le_trans h.kept.size h1)

theorem MFix.kept {w w1 : World} {F : MEnv} {m : St} {U : Nat → Value} (h : MFix w F m U) {p : Nat → Prop} (hk : Kept p w w1) (hp : ∀ b, mfixed F b → ¬ p b) : MFix w1 F m U :=
  ⟨rowIs_keep h.bg hk (hp _ (.inl rfl)), rowIs_keep h.rd hk (hp _ (.inr (.inl rfl))), rowIs_keep h.ws hk (hp _ (.inr (.inr (.inl rfl)))), rowIs_keep h.wr hk (hp _ (.inr (.inr (.inr (.inl rfl))))), rowIs_keep h.vi hk (hp _ (.inr (.inr (.inr (.inr (.inl rfl)))))), rowIs_keep h.en hk (hp _ (.inr (.inr (.inr (.inr (.inr rfl)))))), Nat.le_trans h.size hk.size⟩

theorem MM.kept {w w1 : World} {F : MEnv} {m : St} {U : Nat → Value} (h : MM w F m U) {p : Nat → Prop} (hk : Kept p w w1) (hp : ∀ b, MFoot F U b → ¬ p b) : MM w1 F m U :=
  ⟨h.bank.kept hk (fun j b hj hb => hp b (.inr ⟨j, hj, hb⟩)), h.fix.kept hk (fun b hb => hp b (.inl hb))⟩
theorem MM.below {w w1 : World} {F : MEnv} {m : St} {U : Nat → Value} (h : MM w F m U) (hb : Below w.heap.size w w1) : MM w1 F m U := h.kept (Kept.of_below (p := fun _ => False) hb) (fun _ _ hf => hf)

theorem MM.foot_lt {E : Env} {w : World} {F : MEnv} {m : St} {U : Nat → Value} (hl : MLay E F) (h : MM w F m U) {b : Nat} (hb : MFoot F U b) : b < w.heap.size ∧ E.base ≤ b := by
  obtain ⟨k0, k1, k2, k3, k4, k5, k6⟩ := hl
  have hs := h.fix.size
  rcases hb with hb | ⟨j, hj, hb⟩
  · rcases hb with rfl | rfl | rfl | rfl | rfl | rfl <;> omega
  · have := (h.bank.own j hj).lt b hb
    omega

theorem PM.foot_lt {w : World} {E : Env} {s : St} {V : Nat → Value} (hl : Lay E) (h : PM w E s V) {b : Nat} (hb : Foot E V b) : b < w.heap.size := by
  apply Classical.byContradiction
  intro hn
  exact h.fresh hl (by omega) hb

/-- Both memories, apart. -/
structure Both (w : World) (E : Env) (F : MEnv) (s m : St) (V U : Nat → Value) : Prop where
  pm : PM w E s V
  mm : MM w F m U
  apart : ∀ b, MFoot F U b → ¬ Foot E V b

theorem Both.below {w w1 : World} {E : Env} {F : MEnv} {s m : St} {V U : Nat → Value} (hl : Lay E) (h : Both w E F s m V U) (hb : Below w.heap.size w w1) : Both w1 E F s m V U := ⟨h.pm.below hl hb, h.mm.below hb, h.apart⟩

/-- The program has stepped. -/
theorem Both.sub {w w1 : World} {E : Env} {F : MEnv} {s s1 m : St} {V V1 U : Nat → Value} (hl : Lay E) (hm : MLay E F) (h : Both w E F s m V U) (hp : PM w1 E s1 V1) (hs : Step E w V w1 V1) : Both w1 E F s1 m V1 U :=
  ⟨hp, h.mm.kept hs.kept h.apart, fun b hb hf => by
    rcases hs.foot b hf with h1 | h1
    · exact h.apart b hb h1
    · have := (h.mm.foot_lt hm hb).1; omega⟩

/-- The model has stepped. -/
theorem Both.mod {w w1 : World} {E : Env} {F : MEnv} {s m m1 : St} {V U U1 : Nat → Value} (hl : Lay E) (hm : MLay E F) (h : Both w E F s m V U) (hp : MM w1 F m1 U1) (hs : MStep F w U w1 U1) : Both w1 E F s m1 V U1 :=
  ⟨⟨h.pm.bank.kept hs.kept (fun j b hj hb hf => h.apart b hf (.inr ⟨j, hj, hb⟩)), h.pm.fix.kept hl hs.kept (fun b hb hf => by have := (h.mm.foot_lt hm hf).2; omega)⟩, hp, fun b hb hf => by
    rcases hs.foot b hb with h1 | h1
    · exact h.apart b h1 hf
    · have := h.pm.foot_lt hl hf; omega⟩

/-! ### The model's steps -/
theorem MM.appended {w w1 : World} {F : MEnv} {m : St} {U : Nat → Value} {E : Env} (hl : MLay E F) (h : MM w F m U) {j g cap H k : Nat} {news : List Value} (hj : j < 11)
    (hown : w1.ownsRow F.base (ety 68 j) (esz j) (.slice (some ⟨g, 0, none⟩) (conL m j + k) cap) (conL m j + k) (conC m j ++ news)) (hg : w.grownBy w1 (U j).ownBlock) (hat : (U j).ownBlock = some g ∨ g = H) (hH : w.heap.size = H) :
    Bank 68 w1 F.base (upd U j (.slice (some ⟨g, 0, none⟩) (conL m j + k) cap)) (upd (conL m) j (conL m j + k)) (upd (conC m) j (conC m j ++ news)) ∧ MFix w1 F m U ∧
    MStep F w U w1 (upd U j (.slice (some ⟨g, 0, none⟩) (conL m j + k) cap)) := by
  have hrow : ∀ k, (U j).ownBlock = some k → F.base ≤ k := fun k e => ((h.bank.own j hj).lt k e).1
  refine ⟨h.bank.append hj hown hg hat hH, h.fix.kept (Kept.grown (p := fun b => F.base ≤ b) hg hrow) (fun b hb hf => ?_), ⟨Kept.grown hg (fun k e => .inr ⟨j, hj, e⟩), fun b hb => ?_⟩⟩
  · obtain ⟨k0, k1, k2, k3, k4, k5, k6⟩ := hl
    have hf' : F.base ≤ b := hf
    rcases hb with rfl | rfl | rfl | rfl | rfl | rfl <;> omega
  · rcases hb with hb | ⟨i, hi, hb⟩
    · exact .inl (.inl hb)
    · by_cases e : i = j
      · subst e
        rw [upd_same] at hb
        have hb' : g = b := by
          have : some g = some b := hb
          injection this
        rcases hat with h1 | h1
        · exact .inl (.inr ⟨i, hi, by rw [h1, hb']⟩)
        · exact .inr (by omega)
      · rw [upd_other _ e] at hb
        exact .inl (.inr ⟨i, hi, hb⟩)

theorem MFix.congr {w : World} {F : MEnv} {m m1 : St} {U U1 : Nat → Value} (h : MFix w F m U) (h1 : m1.began = m.began) (h2 : m1.victim = m.victim) (h3 : m1.ended = m.ended) (h4 : ∀ j, 1 ≤ j → j < 10 → U1 j = U j) : MFix w F m1 U1 :=
  ⟨h.bg.congr (fun i _ => by rw [h1]), h.rd.congr (fun i _ => (h4 _ (by omega) (by omega)).symm), h.ws.congr (fun i _ => (h4 _ (by omega) (by omega)).symm), h.wr.congr (fun i _ => (h4 _ (by omega) (by omega)).symm), h.vi.congr (fun i _ => by rw [h2]), h.en.congr (fun i _ => by rw [h3]), h.size⟩
end Go.Proofs.Ybulkiec
