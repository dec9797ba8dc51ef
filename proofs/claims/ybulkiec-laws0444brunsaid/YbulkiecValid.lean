/-
  LawS0444BRun: (*optimistic).validate where the validation fails.
-/
import Derived.Test.YbulkiecInval
namespace Go.Proofs.Ybulkiec
open Go.ChangeShapes Go.WideShapes Go.ChangeAt Go.RowKit
set_option linter.unusedVariables false
attribute [local go_sem ↓] Go.wp_at_zero Go.wp_at_succ

theorem inval_some (E : Env) (s : St) (V : Nat → Value) (t x wt : Nat) (w : World) (hl : Lay E) (h : PM w E s V) (hg : Good s) (ht : t < 3) (hi : inval s.wr (s.began t) (s.reads t) = some (x, wt)) :
    Calls Yba.prog 15 #[.pointer (some ⟨E.br, 0, none⟩), .int .i64 t] w fun r w' => r = .returned (.tuple #[.int .i64 (x : Int), .int .i64 (wt : Int), .bool true]) ∧ Below w.heap.size w w' :=
  (inval_run E s V t w hl h hg ht).mono fun _ _ ⟨he, hb⟩ => ⟨by rw [he, hi]; rfl, hb⟩
theorem inval_none (E : Env) (s : St) (V : Nat → Value) (t : Nat) (w : World) (hl : Lay E) (h : PM w E s V) (hg : Good s) (ht : t < 3) (hi : inval s.wr (s.began t) (s.reads t) = none) :
    Calls Yba.prog 15 #[.pointer (some ⟨E.br, 0, none⟩), .int .i64 t] w fun r w' => r = .returned (.tuple #[.int .i64 0, .int .i64 0, .bool false]) ∧ Below w.heap.size w w' :=
  (inval_run E s V t w hl h hg ht).mono fun _ _ ⟨he, hb⟩ => ⟨by rw [he, hi]; rfl, hb⟩

/-- The event of a failed validation. -/
def ivEv (step : Int) (txn item writer : ByteArray) : Ev := { kind := 8, step := step, txn := txn, act := 3, item := ⟨#[]⟩, eitem := item, writer := writer }

def iv1 (E : Env) (s : St) (t : Nat) (step : Int) (x wt : Nat) : St := { s with ev := s.ev ++ [ivEv step (E.nm t) (E.itn x) (E.nm wt)] }
def iv3 (s : St) (t : Nat) : St := { s with victim := upd s.victim t true, victims := s.victims ++ [t] }
/-- What a failed validation makes of the state. -/
def badSt (E : Env) (s : St) (t : Nat) (step : Int) (x wt : Nat) : St :=
  let s3 := iv3 (endSt (iv1 E s t step x wt) t) t
  { s3 with ev := s3.ev ++ [exEv 0 (E.nm t) 4 ⟨#[]⟩], ended := upd s3.ended t true }

set_option maxRecDepth 100000 in
set_option maxHeartbeats 4000000 in
theorem valid_bad (E : Env) (s : St) (V : Nat → Value) (t : Nat) (step : Int) (x wt : Nat) (w : World) (hl : Lay E) (h : PM w E s V) (hg : Good s) (ht : t < 3) (hx : x < 3) (hwt : wt < 3) (hi : inval s.wr (s.began t) (s.reads t) = some (x, wt)) :
    Calls Yba.prog 13 #[.pointer (some ⟨E.br, 0, none⟩), .int .i64 t, .int .i64 step] w fun r w' => r = .returned (.tuple #[]) ∧ ∃ V', PM w' E (badSt E s t step x wt) V' ∧ Step E w V w' V' := by
  have hti : (t : Int) < 3 := by omega
  have hxi : (x : Int) < 3 := by omega
  have hwi : (wt : Int) < 3 := by omega
  have c1 : w.cell? ⟨E.br, 1, none⟩ = some (.slice (some ⟨E.bn, 0, none⟩) 3 3) := h.fix.r.cell (by omega)
  have d1 := h.fix.st.nm t ht
  have HP := hid h
  have HG := hid hg
  have HI := hid hi
  clear h hg hi
  go_enter Yba.func13, Yba.ntmps13
  go_wp2_with fail
  have hbel : Below w.heap.size w (w.alloc (Obj.cells #[.string (E.nm t), .int .u8 3, .string ⟨#[]⟩] 39)) := (Below.refl _ _).alloc (Nat.le_refl _) _
  refine (inval_some E s V t x wt _ hl (HP.out.below hl hbel) HG.out ht HI.out).mono ?_
  rintro r w1 ⟨rfl, hb1⟩
  have hbw := bel2 hbel hb1
  have o0 := ((bcell hb1).1 w.heap.size 0 (by simp)).trans (show _ = some (Value.string (E.nm t)) by go_simp)
  have o1 := ((bcell hb1).1 w.heap.size 1 (by simp)).trans (show _ = some (Value.int .u8 3) by go_simp)
  have o2 := ((bcell hb1).1 w.heap.size 2 (by simp)).trans (show _ = some (Value.string ⟨#[]⟩) by go_simp)
  have HP1 := hid (HP.out.below hl hbw)
  have HS1 := hid (Step.of_below (E := E) (V := V) hbw)
  have c1 : w1.cell? ⟨E.br, 1, none⟩ = some (.slice (some ⟨E.bn, 0, none⟩) 3 3) := HP1.out.fix.r.cell (by omega)
  have c5 : w1.cell? ⟨E.br, 5, none⟩ = some (.slice (some ⟨E.bi, 0, none⟩) 3 3) := HP1.out.fix.r.cell (by omega)
  have dw := HP1.out.fix.st.nm wt hwt
  have dx := HP1.out.fix.st.im x hx
  have HF : Hid (¬ Foot E V w.heap.size) := HP.out.fresh hl (Nat.le_refl _)
  have HEV : Hid (s.ev.length ≤ 1000000) := by have := HG.out.ev; show _ ≤ _; omega
  have HE0 : Hid (s.ev.length + 1 ≤ 1000000) := by have := HG.out.ev; show _ ≤ _; omega
  have HVS : Hid (s.victims.length ≤ 1000000) := by have := HG.out.vs; show _ ≤ _; omega
  clear hb1 hbw hbel HP HG HI d1
  generalize w.heap.size = bx at *
  go_wp2_with fail
  go_region_held3 (fun w' => w'.cell? ⟨bx, 0, none⟩ = some (.string (E.nm t)) ∧ w'.cell? ⟨bx, 1, none⟩ = some (.int .u8 3) ∧ w'.cell? ⟨bx, 2, none⟩ = some (.string ⟨#[]⟩) ∧ w'.cell? ⟨E.br, 1, none⟩ = some (.slice (some ⟨E.bn, 0, none⟩) 3 3) ∧ w'.cell? ⟨E.br, 5, none⟩ = some (.slice (some ⟨E.bi, 0, none⟩) 3 3) ∧ w'.cell? ⟨E.bn, wt, none⟩ = some (.string (E.nm wt)) ∧ w'.cell? ⟨E.bi, x, none⟩ = some (.string (E.itn x)))
    (first | exact ⟨p0, p1, p2, p3, p4, p5, p6⟩ | go_keep)
    (first | (go_at_call 10; refine (emit_run E s V (ivEv step (E.nm t) (E.itn x) (E.nm wt)) _ hl (by exact HP1.out.below hl (Below.refl _ _).drew) HEV.out).mono ?_; rintro r w2 ⟨rfl, V2, hp2, hs2, hv2⟩; have p0 := hs2.kept.cell (by exact o0) HF.out; have p1 := hs2.kept.cell (by exact o1) HF.out; have p2 := hs2.kept.cell (by exact o2) HF.out; have p3 : w2.cell? ⟨E.br, 1, none⟩ = some (.slice (some ⟨E.bn, 0, none⟩) 3 3) := hp2.fix.r.cell (by omega); have p4 : w2.cell? ⟨E.br, 5, none⟩ = some (.slice (some ⟨E.bi, 0, none⟩) 3 3) := hp2.fix.r.cell (by omega); have p5 := hp2.fix.st.nm wt hwt; have p6 := hp2.fix.st.im x hx))
  have HP2 := hid hp2
  have HS2 := hid ((HS1.out.trans (Step.of_below (Below.refl _ _).drew)).trans hs2)
  clear hp2 hs2 hv2 p0 p1 p2 p3 p4 p5 p6 HP1 HS1 o0 o1 o2 c1 c5 dw dx HF
  go_wp2_with fail
  refine (end_run E (iv1 E s t step x wt) V2 t _ hl HP2.out ht).mono ?_
  rintro r w3 ⟨rfl, V3, hp3, hs3⟩
  have HP3 := hid hp3
  have HS3 := hid (HS2.out.trans hs3)
  clear hp3 hs3 HP2 HS2
  go_wp2_with fail
  refine (again_run E (endSt (iv1 E s t step x wt) t) V3 t _ hl HP3.out ht HVS.out).mono ?_
  rintro r w4 ⟨rfl, V4, hp4, hs4⟩
  have HP4 := hid hp4
  have HS4 := hid (HS3.out.trans hs4)
  clear hp4 hs4 HP3 HS3
  have HEV4 : Hid ((iv3 (endSt (iv1 E s t step x wt) t) t).ev.length ≤ 1000000) := by
    show (s.ev ++ [_]).length ≤ _
    rw [List.length_append]; exact HE0.out
  have c1 : w4.cell? ⟨E.br, 1, none⟩ = some (.slice (some ⟨E.bn, 0, none⟩) 3 3) := HP4.out.fix.r.cell (by omega)
  have dt := HP4.out.fix.st.nm t ht
  clear HVS HEV
  go_wp2_with fail
  go_region_held3 (fun w' => w'.cell? ⟨E.br, 1, none⟩ = some (.slice (some ⟨E.bn, 0, none⟩) 3 3) ∧ w'.cell? ⟨E.bn, t, none⟩ = some (.string (E.nm t)))
    (first | exact ⟨p3, p5⟩ | go_keep)
    (first | (go_at_call 11; refine (exec_run E (iv3 (endSt (iv1 E s t step x wt) t) t) V4 t 0 (E.nm t) 4 ⟨#[]⟩ _ hl (by exact HP4.out.below hl (Below.refl _ _).drew) ht (Or.inr (Or.inr (Or.inr rfl))) HEV4.out).mono ?_; rintro r w5 ⟨rfl, V5, hp5, hs5, hv5⟩; have p3 : w5.cell? ⟨E.br, 1, none⟩ = some (.slice (some ⟨E.bn, 0, none⟩) 3 3) := hp5.fix.r.cell (by omega); have p5 := hp5.fix.st.nm t ht))
  have HR := hid (show ∃ V', PM w5 E (badSt E s t step x wt) V' ∧ Step E w V w5 V' from ⟨V5, hp5, (HS4.out.trans (Step.of_below (Below.refl _ _).drew)).trans hs5⟩)
  clear hp5 hs5 hv5 p3 p5 HP4 HS4
  go_wp2_with fail
  refine bodyPost_ret (results_none rfl _ _ _) rfl ?_
  exact ⟨rfl, HR.out⟩
end Go.Proofs.Ybulkiec
