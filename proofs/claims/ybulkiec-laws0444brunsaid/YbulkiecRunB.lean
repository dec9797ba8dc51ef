/-
  LawS0444BRun: executed, deferred, endRun, runAgain.
-/
import Derived.Test.YbulkiecRunA
import Derived.BigRegion
import Derived.RegionTactic
namespace Go.Proofs.Ybulkiec
open Go.ChangeShapes Go.WideShapes Go.ChangeAt Go.RowKit
set_option linter.unusedVariables false
attribute [local go_sem ↓] Go.wp_at_zero Go.wp_at_succ

/-- What a fresh box below is to the footprint: not in it. -/
theorem PM.fresh {w : World} {E : Env} {s : St} {V : Nat → Value} (hl : Lay E) (h : PM w E s V) {b : Nat} (hb : w.heap.size ≤ b) : ¬ Foot E V b := fun hf => by
  have hsz := h.fix.size
  obtain ⟨l1, l2, l3, l4, l5, l6, l7, l8, l9, l10, l11, l12, l13, l14, l15, l16, _⟩ := hl
  rcases hf with hf | ⟨j, hj, hf⟩
  · unfold fixed at hf
    omega
  · have := ((h.bank.own j hj).lt _ hf).2
    omega

/-- The event that 'executed' emits. -/
def exEv (step : Int) (txn : ByteArray) (act : Int) (item : ByteArray) : Ev := { kind := 1, step := step, txn := txn, act := act, item := item, eitem := ⟨#[]⟩, writer := ⟨#[]⟩ }

set_option maxRecDepth 100000 in
set_option maxHeartbeats 4000000 in
/-- (*driver).executed. -/
theorem exec_run (E : Env) (s : St) (V : Nat → Value) (t : Nat) (step : Int) (txn : ByteArray) (ac : Int) (item : ByteArray) (w : World) (hl : Lay E) (h : PM w E s V) (ht : t < 3) (hac : ac = 1 ∨ ac = 2 ∨ ac = 3 ∨ ac = 4) (hev : s.ev.length ≤ 1000000) :
    Calls Yba.prog 11 #[.pointer (some ⟨E.br, 0, none⟩), .int .i64 t, .int .i64 step, .agg #[.string txn, .int .u8 ac, .string item]] w fun r w' =>
      r = .returned (.bool (ac == 3 || ac == 4)) ∧ ∃ V', PM w' E { s with ev := s.ev ++ [exEv step txn ac item], ended := upd s.ended t (ac == 3 || ac == 4) } V' ∧ Step E w V w' V' ∧ ∀ j, j ≠ 0 → V' j = V j := by
  have hti : (t : Int) < 3 := by omega
  have HP := hid h
  clear h
  rcases hac with rfl | rfl | rfl | rfl
  · go_enter Yba.func11, Yba.ntmps11
    go_wp2_with fail
    refine (emit_run E s V (exEv step txn 1 item) _ hl (HP.out.below hl ((Below.refl _ _).alloc (Nat.le_refl _) _)) hev).mono ?_
    rintro r w1 ⟨rfl, V1, hp1, hs1, hv1⟩
    have b0 := hs1.kept.cell (b := w.heap.size) (o := 1) (v := .int .u8 1) (by go_simp) (HP.out.fresh hl (Nat.le_refl _))
    have c10 : w1.cell? ⟨E.br, 10, none⟩ = some (.slice (some ⟨E.be, 0, none⟩) 3 3) := hp1.fix.r.cell (by omega)
    have ce := hp1.fix.en.cell ht
    have fe := hp1.fix.en.frozen t
    have HR : Hid (∃ V', PM ((w1.setCell ⟨E.be, t, none⟩ (.bool false)).drew) E { s with ev := s.ev ++ [exEv step txn 1 item], ended := upd s.ended t false } V' ∧ Step E w V ((w1.setCell ⟨E.be, t, none⟩ (.bool false)).drew) V' ∧ ∀ j, j ≠ 0 → V' j = V j) := by
      obtain ⟨h1, h2⟩ := hp1.set_en hl t false
      exact ⟨V1, h1.below hl (Below.refl _ _).drew, ((((Step.of_below ((Below.refl _ _).alloc (Nat.le_refl _) _)).trans hs1).trans h2)).trans (Step.of_below (Below.refl _ _).drew), hv1⟩
    have neb : E.be ≠ E.br := by have := hl.l8; omega
    clear hp1 hs1 hv1 HP
    go_wp2
    go_region
    all_goals
      go_wp2
      go_ret
      exact ⟨rfl, HR.out⟩
  · go_enter Yba.func11, Yba.ntmps11
    go_wp2_with fail
    refine (emit_run E s V (exEv step txn 2 item) _ hl (HP.out.below hl ((Below.refl _ _).alloc (Nat.le_refl _) _)) hev).mono ?_
    rintro r w1 ⟨rfl, V1, hp1, hs1, hv1⟩
    have b0 := hs1.kept.cell (b := w.heap.size) (o := 1) (v := .int .u8 2) (by go_simp) (HP.out.fresh hl (Nat.le_refl _))
    have c10 : w1.cell? ⟨E.br, 10, none⟩ = some (.slice (some ⟨E.be, 0, none⟩) 3 3) := hp1.fix.r.cell (by omega)
    have ce := hp1.fix.en.cell ht
    have fe := hp1.fix.en.frozen t
    have HR : Hid (∃ V', PM ((w1.setCell ⟨E.be, t, none⟩ (.bool false)).drew) E { s with ev := s.ev ++ [exEv step txn 2 item], ended := upd s.ended t false } V' ∧ Step E w V ((w1.setCell ⟨E.be, t, none⟩ (.bool false)).drew) V' ∧ ∀ j, j ≠ 0 → V' j = V j) := by
      obtain ⟨h1, h2⟩ := hp1.set_en hl t false
      exact ⟨V1, h1.below hl (Below.refl _ _).drew, ((((Step.of_below ((Below.refl _ _).alloc (Nat.le_refl _) _)).trans hs1).trans h2)).trans (Step.of_below (Below.refl _ _).drew), hv1⟩
    have neb : E.be ≠ E.br := by have := hl.l8; omega
    clear hp1 hs1 hv1 HP
    go_wp2
    go_region
    all_goals
      go_wp2
      go_ret
      exact ⟨rfl, HR.out⟩
  · go_enter Yba.func11, Yba.ntmps11
    go_wp2_with fail
    refine (emit_run E s V (exEv step txn 3 item) _ hl (HP.out.below hl ((Below.refl _ _).alloc (Nat.le_refl _) _)) hev).mono ?_
    rintro r w1 ⟨rfl, V1, hp1, hs1, hv1⟩
    have b0 := hs1.kept.cell (b := w.heap.size) (o := 1) (v := .int .u8 3) (by go_simp) (HP.out.fresh hl (Nat.le_refl _))
    have c10 : w1.cell? ⟨E.br, 10, none⟩ = some (.slice (some ⟨E.be, 0, none⟩) 3 3) := hp1.fix.r.cell (by omega)
    have ce := hp1.fix.en.cell ht
    have fe := hp1.fix.en.frozen t
    have HR : Hid (∃ V', PM ((w1.setCell ⟨E.be, t, none⟩ (.bool true)).drew) E { s with ev := s.ev ++ [exEv step txn 3 item], ended := upd s.ended t true } V' ∧ Step E w V ((w1.setCell ⟨E.be, t, none⟩ (.bool true)).drew) V' ∧ ∀ j, j ≠ 0 → V' j = V j) := by
      obtain ⟨h1, h2⟩ := hp1.set_en hl t true
      exact ⟨V1, h1.below hl (Below.refl _ _).drew, ((((Step.of_below ((Below.refl _ _).alloc (Nat.le_refl _) _)).trans hs1).trans h2)).trans (Step.of_below (Below.refl _ _).drew), hv1⟩
    have neb : E.be ≠ E.br := by have := hl.l8; omega
    clear hp1 hs1 hv1 HP
    go_wp2
    go_region
    all_goals
      go_wp2
      go_ret
      exact ⟨rfl, HR.out⟩
  · go_enter Yba.func11, Yba.ntmps11
    go_wp2_with fail
    refine (emit_run E s V (exEv step txn 4 item) _ hl (HP.out.below hl ((Below.refl _ _).alloc (Nat.le_refl _) _)) hev).mono ?_
    rintro r w1 ⟨rfl, V1, hp1, hs1, hv1⟩
    have b0 := hs1.kept.cell (b := w.heap.size) (o := 1) (v := .int .u8 4) (by go_simp) (HP.out.fresh hl (Nat.le_refl _))
    have c10 : w1.cell? ⟨E.br, 10, none⟩ = some (.slice (some ⟨E.be, 0, none⟩) 3 3) := hp1.fix.r.cell (by omega)
    have ce := hp1.fix.en.cell ht
    have fe := hp1.fix.en.frozen t
    have HR : Hid (∃ V', PM ((w1.setCell ⟨E.be, t, none⟩ (.bool true)).drew) E { s with ev := s.ev ++ [exEv step txn 4 item], ended := upd s.ended t true } V' ∧ Step E w V ((w1.setCell ⟨E.be, t, none⟩ (.bool true)).drew) V' ∧ ∀ j, j ≠ 0 → V' j = V j) := by
      obtain ⟨h1, h2⟩ := hp1.set_en hl t true
      exact ⟨V1, h1.below hl (Below.refl _ _).drew, ((((Step.of_below ((Below.refl _ _).alloc (Nat.le_refl _) _)).trans hs1).trans h2)).trans (Step.of_below (Below.refl _ _).drew), hv1⟩
    have neb : E.be ≠ E.br := by have := hl.l8; omega
    clear hp1 hs1 hv1 HP
    go_wp2
    go_region
    all_goals
      go_wp2
      go_ret
      exact ⟨rfl, HR.out⟩
end Go.Proofs.Ybulkiec
