/-
  LawS0444BRun: the law's own walk.
-/
import Derived.Test.YbulkiecRoundR
import Derived.Test.YbulkiecRoundW
import Derived.Test.YbulkiecRoundG
import Derived.Test.YbulkiecRoundB
import Derived.Test.YbulkiecRoundA
namespace Go.Proofs.Ybulkiec
open Go.ChangeShapes Go.WideShapes Go.ChangeAt Go.RowKit
set_option linter.unusedVariables false
set_option linter.unusedSimpArgs false
attribute [local go_sem ↓] Go.wp_at_zero Go.wp_at_succ

set_option maxRecDepth 100000 in
set_option maxHeartbeats 0 in
theorem law_small (ao : Option Addr) (n cap : Nat) (T A X : Nat → Int) (w : World) (hn : n ≤ 300) (hin : 0 < n → ∃ b off, ao = some ⟨b, off, none⟩ ∧ b < w.heap.size ∧ ∀ j, j < n → w.cell? ⟨b, off + j * 3, none⟩ = some (.int .u8 (T j)) ∧ w.cell? ⟨b, off + j * 3 + 1, none⟩ = some (.int .u8 (A j)) ∧ w.cell? ⟨b, off + j * 3 + 2, none⟩ = some (.int .u8 (X j)))
    (hby : ∀ j, j < n → (0 ≤ T j ∧ T j ≤ 255) ∧ (0 ≤ A j ∧ A j ≤ 255) ∧ (0 ≤ X j ∧ X j ≤ 255)) :
    Calls Yba.prog 3 #[.slice ao n cap] w fun r w' => r = .returned (.bool true) ∧ Below w.heap.size w w' := by
  have hni : ¬ (300 : Int) < (n : Int) := by omega
  have hm27 := mk27 n hn
  have hm28 := fun w => run_make_row' (P := Yba.prog) 28 3 (.int .i64 0) 8 Yba.underlying28 Yba.info3 rfl .i64 .i64 n (by omega) (by omega) w
  have HIN := hid hin
  have HBY := hid hby
  clear hin hby
  go_enter Yba.func3, Yba.ntmps3
  go_wp2
  have HST := hid (R7_start w n T A X (L1_start w n T A X))
  obtain ⟨N, hN⟩ : ∃ N, N = w.heap.size := ⟨_, rfl⟩
  have hz0 : w.heap.size = N := hN.symm
  rw [hz0] at HST ⊢
  clear hN
  generalize hb6 : N + 1 + 1 + 1 + 1 + 1 + 1 = b6 at *
  generalize hb5 : N + 1 + 1 + 1 + 1 + 1 = b5 at *
  generalize hb4 : N + 1 + 1 + 1 + 1 = b4 at *
  generalize hb3 : N + 1 + 1 + 1 = b3 at *
  generalize hb2 : N + 1 + 1 = b2 at *
  generalize hb1 : N + 1 = b1 at *
  clear hm27 hm28
  go_loopw [10] (fun u wr => ∃ k : Nat, k ≤ n ∧ u = .int .i64 k ∧ Hid (∃ fo ft fi, R7 w wr N b1 b2 b3 b4 b5 b6 n fo ft fi ∧ Done T A X k fo ft fi)) (fun u _ => n - (intOf u).toNat)
  case atStart =>
    exact ⟨0, by omega, rfl, HST⟩
  case round =>
    obtain ⟨k, hk, rfl, HL⟩ := hrel
    clear HST
    by_cases hlt : k < n
    · obtain ⟨b, off, rfl, hbl, hcells⟩ := HIN.out (by omega)
      obtain ⟨q0, q1, q2⟩ := hcells k hlt
      obtain ⟨⟨y0, y1⟩, ⟨y2, y3⟩, ⟨y4, y5⟩⟩ := HBY.out k hlt
      obtain ⟨fo, ft, fi, hr, hd⟩ := HL.out
      clear hcells
      have hki : (k : Int) < (n : Int) := by omega
      have hbl2 : b < N := by omega
      replace q0 := (hr.bel.cell (p := ⟨b, off + k * 3, none⟩) hbl2).trans q0
      replace q1 := (hr.bel.cell (p := ⟨b, off + k * 3 + 1, none⟩) hbl2).trans q1
      replace q2 := (hr.bel.cell (p := ⟨b, off + k * 3 + 2, none⟩) hbl2).trans q2
      have xt := hr.tx.cell hlt
      have xi := hr.io.cell hlt
      have gt := hr.tx.frozen k
      have gi := hr.io.frozen k
      have xa : wr.cell? ⟨b2, (A k % 4).toNat, none⟩ = some (.int .u8 (acOf A k)) := by
        have := hr.acts.cell (i := (A k % 4).toNat) (by omega)
        rw [this, acOf, Int.toNat_of_nonneg (by omega)]
      have n56 : b5 ≠ b6 := by omega
      have n65 : b6 ≠ b5 := by omega
      have m4 : A k % 4 < 4 := by omega
      have m40 : 0 ≤ A k % 4 := by omega
      have m3 : T k % 3 < 3 := by omega
      have m30 : 0 ≤ T k % 3 := by omega
      have mX : X k % 3 < 3 := by omega
      have mX0 : 0 ≤ X k % 3 := by omega
      have HR := hid hr
      have HD := hid hd
      clear hr hd HL
      rcases (by omega : A k % 4 = 0 ∨ A k % 4 = 1 ∨ A k % 4 = 2 ∨ A k % 4 = 3) with e | e | e | e
      · have hac : acOf A k = 1 := by unfold acOf; omega
        rw [hac] at xa
        replace e := hid e
        replace hac := hid hac
        go_wp2
        have HR1 := hid ((HR.out.setT k (.int .i64 (T k % 3))).setI k (.int .i64 (-1)))
        have nb2 : b < N := hbl2
        have q2' : ((wr.setCell ⟨b5, k, none⟩ (.int .i64 (T k % 3))).setCell ⟨b6, k, none⟩ (.int .i64 (-1))).cell? ⟨b, off + k * 3 + 2, none⟩ = some (.int .u8 (X k)) := set_far (set_far q2 (by omega)) (by omega)
        clear q0 q1 q2 xt xi gt gi xa HR
        generalize (wr.setCell ⟨b5, k, none⟩ (.int .i64 (T k % 3))).setCell ⟨b6, k, none⟩ (.int .i64 (-1)) = w1 at *
        have xs := HR1.out.sched
        have xn : w1.cell? ⟨N, (T k % 3).toNat, none⟩ = some (.string (nmOf (txOf T k))) := HR1.out.nm.cell (i := (T k % 3).toNat) (by omega)
        have x0 := HR1.out.ops.cell (i := k * 3) (by omega)
        have x1 := HR1.out.ops.cell (i := k * 3 + 1) (by omega)
        have x2 := HR1.out.ops.cell (i := k * 3 + 2) (by omega)
        have g0 := HR1.out.ops.frozen (k * 3)
        have g1 := HR1.out.ops.frozen (k * 3 + 1)
        have g2 := HR1.out.ops.frozen (k * 3 + 2)
        have n43 : b4 ≠ b3 := by omega
        have n03 : N ≠ b3 := by omega
        go_region_held3 (fun w' => w'.cell? ⟨b4, 0, none⟩ = some (.slice (some ⟨b3, 0, none⟩) n n) ∧ w'.cell? ⟨N, (T k % 3).toNat, none⟩ = some (.string (nmOf (txOf T k))))
          (first | exact ⟨xs, xn⟩ | exact ⟨drew_cell (set_far (set_far (set_far xs n43) n43) n43), drew_cell (set_far (set_far (set_far xn n03) n03) n03)⟩) (fail)
        have HR2 := hid (((HR1.out.setO (k * 3) (.string (nmOf (txOf T k)))).setO (k * 3 + 1) (.int .u8 1)).setO (k * 3 + 2) (.string ⟨#[]⟩)).drew
        have q3 : ((((w1.setCell ⟨b3, k * 3, none⟩ (.string (nmOf (txOf T k)))).setCell ⟨b3, k * 3 + 1, none⟩ (.int .u8 1)).setCell ⟨b3, k * 3 + 2, none⟩ (.string ⟨#[]⟩)).drew).cell? ⟨b, off + k * 3 + 2, none⟩ = some (.int .u8 (X k)) := drew_cell (set_far (set_far (set_far q2' (by omega)) (by omega)) (by omega))
        clear xs xn x0 x1 x2 g0 g1 g2 q2' HR1
        generalize (((w1.setCell ⟨b3, k * 3, none⟩ (.string (nmOf (txOf T k)))).setCell ⟨b3, k * 3 + 1, none⟩ (.int .u8 1)).setCell ⟨b3, k * 3 + 2, none⟩ (.string ⟨#[]⟩)).drew = w2 at *
        have xi := HR2.out.io.cell hlt
        have gi := HR2.out.io.frozen k
        go_wp2
        have HR3 := hid (HR2.out.setI k (.int .i64 (X k % 3)))
        clear q3 xi gi HR2
        generalize w2.setCell ⟨b6, k, none⟩ (.int .i64 (X k % 3)) = w3 at *
        have xs := HR3.out.sched
        have xn : w3.cell? ⟨b1, (X k % 3).toNat, none⟩ = some (.string (itOf (X k % 3).toNat)) := HR3.out.im.cell (i := (X k % 3).toNat) (by omega)
        have x2 := HR3.out.ops.cell (i := k * 3 + 2) (by omega)
        have g2 := HR3.out.ops.frozen (k * 3 + 2)
        have n13 : b1 ≠ b3 := by omega
        go_region_held3 (fun w' => w'.cell? ⟨b4, 0, none⟩ = some (.slice (some ⟨b3, 0, none⟩) n n) ∧ w'.cell? ⟨b1, (X k % 3).toNat, none⟩ = some (.string (itOf (X k % 3).toNat)))
          (first | exact ⟨xs, xn⟩ | exact ⟨drew_cell (set_far xs n43), drew_cell (set_far xn n13)⟩) (fail)
        have HR4 := hid ((HR3.out.setO (k * 3 + 2) (.string (itOf (X k % 3).toNat))).drew)
        clear xs xn x2 g2 HR3
        generalize (w3.setCell ⟨b3, k * 3 + 2, none⟩ (.string (itOf (X k % 3).toNat))).drew = w4 at *
        go_wp2
        go_roundw
        case rel =>
          refine ⟨k + 1, by omega, by go_num, _, _, _, HR4.out, ?_⟩
          refine HD.out.step (fun c hc => ?_) ?_ ?_ ?_ (fun c hc => ?_) ?_ (fun c hc => ?_) ?_
          · rw [if_neg (by omega), if_neg (by omega), if_neg (by omega), if_neg (by omega)]
          · rw [if_neg (by omega), if_neg (by omega), if_neg (by omega), if_pos rfl]
          · rw [if_neg (by omega), if_neg (by omega), if_pos rfl, hac.out]
          · rw [if_pos rfl, itmOf, if_pos (by have := e.out; omega)]
          · rw [if_neg (by omega)]
          · rw [if_pos rfl, txOf, Int.toNat_of_nonneg m30]
          · rw [if_neg (by omega), if_neg (by omega)]
          · rw [if_pos rfl, ioOf, if_pos (by have := e.out; omega)]
        case measure => simp [intOf]; omega
      · have hac : acOf A k = 2 := by unfold acOf; omega
        rw [hac] at xa
        replace e := hid e
        replace hac := hid hac
        go_wp2
        have HR1 := hid ((HR.out.setT k (.int .i64 (T k % 3))).setI k (.int .i64 (-1)))
        have nb2 : b < N := hbl2
        have q2' : ((wr.setCell ⟨b5, k, none⟩ (.int .i64 (T k % 3))).setCell ⟨b6, k, none⟩ (.int .i64 (-1))).cell? ⟨b, off + k * 3 + 2, none⟩ = some (.int .u8 (X k)) := set_far (set_far q2 (by omega)) (by omega)
        clear q0 q1 q2 xt xi gt gi xa HR
        generalize (wr.setCell ⟨b5, k, none⟩ (.int .i64 (T k % 3))).setCell ⟨b6, k, none⟩ (.int .i64 (-1)) = w1 at *
        have xs := HR1.out.sched
        have xn : w1.cell? ⟨N, (T k % 3).toNat, none⟩ = some (.string (nmOf (txOf T k))) := HR1.out.nm.cell (i := (T k % 3).toNat) (by omega)
        have x0 := HR1.out.ops.cell (i := k * 3) (by omega)
        have x1 := HR1.out.ops.cell (i := k * 3 + 1) (by omega)
        have x2 := HR1.out.ops.cell (i := k * 3 + 2) (by omega)
        have g0 := HR1.out.ops.frozen (k * 3)
        have g1 := HR1.out.ops.frozen (k * 3 + 1)
        have g2 := HR1.out.ops.frozen (k * 3 + 2)
        have n43 : b4 ≠ b3 := by omega
        have n03 : N ≠ b3 := by omega
        go_region_held3 (fun w' => w'.cell? ⟨b4, 0, none⟩ = some (.slice (some ⟨b3, 0, none⟩) n n) ∧ w'.cell? ⟨N, (T k % 3).toNat, none⟩ = some (.string (nmOf (txOf T k))))
          (first | exact ⟨xs, xn⟩ | exact ⟨drew_cell (set_far (set_far (set_far xs n43) n43) n43), drew_cell (set_far (set_far (set_far xn n03) n03) n03)⟩) (fail)
        have HR2 := hid (((HR1.out.setO (k * 3) (.string (nmOf (txOf T k)))).setO (k * 3 + 1) (.int .u8 2)).setO (k * 3 + 2) (.string ⟨#[]⟩)).drew
        have q3 : ((((w1.setCell ⟨b3, k * 3, none⟩ (.string (nmOf (txOf T k)))).setCell ⟨b3, k * 3 + 1, none⟩ (.int .u8 2)).setCell ⟨b3, k * 3 + 2, none⟩ (.string ⟨#[]⟩)).drew).cell? ⟨b, off + k * 3 + 2, none⟩ = some (.int .u8 (X k)) := drew_cell (set_far (set_far (set_far q2' (by omega)) (by omega)) (by omega))
        clear xs xn x0 x1 x2 g0 g1 g2 q2' HR1
        generalize (((w1.setCell ⟨b3, k * 3, none⟩ (.string (nmOf (txOf T k)))).setCell ⟨b3, k * 3 + 1, none⟩ (.int .u8 2)).setCell ⟨b3, k * 3 + 2, none⟩ (.string ⟨#[]⟩)).drew = w2 at *
        have xi := HR2.out.io.cell hlt
        have gi := HR2.out.io.frozen k
        go_wp2
        have HR3 := hid (HR2.out.setI k (.int .i64 (X k % 3)))
        clear q3 xi gi HR2
        generalize w2.setCell ⟨b6, k, none⟩ (.int .i64 (X k % 3)) = w3 at *
        have xs := HR3.out.sched
        have xn : w3.cell? ⟨b1, (X k % 3).toNat, none⟩ = some (.string (itOf (X k % 3).toNat)) := HR3.out.im.cell (i := (X k % 3).toNat) (by omega)
        have x2 := HR3.out.ops.cell (i := k * 3 + 2) (by omega)
        have g2 := HR3.out.ops.frozen (k * 3 + 2)
        have n13 : b1 ≠ b3 := by omega
        go_region_held3 (fun w' => w'.cell? ⟨b4, 0, none⟩ = some (.slice (some ⟨b3, 0, none⟩) n n) ∧ w'.cell? ⟨b1, (X k % 3).toNat, none⟩ = some (.string (itOf (X k % 3).toNat)))
          (first | exact ⟨xs, xn⟩ | exact ⟨drew_cell (set_far xs n43), drew_cell (set_far xn n13)⟩) (fail)
        have HR4 := hid ((HR3.out.setO (k * 3 + 2) (.string (itOf (X k % 3).toNat))).drew)
        clear xs xn x2 g2 HR3
        generalize (w3.setCell ⟨b3, k * 3 + 2, none⟩ (.string (itOf (X k % 3).toNat))).drew = w4 at *
        go_wp2
        go_roundw
        case rel =>
          refine ⟨k + 1, by omega, by go_num, _, _, _, HR4.out, ?_⟩
          refine HD.out.step (fun c hc => ?_) ?_ ?_ ?_ (fun c hc => ?_) ?_ (fun c hc => ?_) ?_
          · rw [if_neg (by omega), if_neg (by omega), if_neg (by omega), if_neg (by omega)]
          · rw [if_neg (by omega), if_neg (by omega), if_neg (by omega), if_pos rfl]
          · rw [if_neg (by omega), if_neg (by omega), if_pos rfl, hac.out]
          · rw [if_pos rfl, itmOf, if_pos (by have := e.out; omega)]
          · rw [if_neg (by omega)]
          · rw [if_pos rfl, txOf, Int.toNat_of_nonneg m30]
          · rw [if_neg (by omega), if_neg (by omega)]
          · rw [if_pos rfl, ioOf, if_pos (by have := e.out; omega)]
        case measure => simp [intOf]; omega
      · have hac : acOf A k = 3 := by unfold acOf; omega
        rw [hac] at xa
        replace e := hid e
        replace hac := hid hac
        go_wp2
        have HR1 := hid ((HR.out.setT k (.int .i64 (T k % 3))).setI k (.int .i64 (-1)))
        have nb2 : b < N := hbl2
        have q2' : ((wr.setCell ⟨b5, k, none⟩ (.int .i64 (T k % 3))).setCell ⟨b6, k, none⟩ (.int .i64 (-1))).cell? ⟨b, off + k * 3 + 2, none⟩ = some (.int .u8 (X k)) := set_far (set_far q2 (by omega)) (by omega)
        clear q0 q1 q2 xt xi gt gi xa HR
        generalize (wr.setCell ⟨b5, k, none⟩ (.int .i64 (T k % 3))).setCell ⟨b6, k, none⟩ (.int .i64 (-1)) = w1 at *
        have xs := HR1.out.sched
        have xn : w1.cell? ⟨N, (T k % 3).toNat, none⟩ = some (.string (nmOf (txOf T k))) := HR1.out.nm.cell (i := (T k % 3).toNat) (by omega)
        have x0 := HR1.out.ops.cell (i := k * 3) (by omega)
        have x1 := HR1.out.ops.cell (i := k * 3 + 1) (by omega)
        have x2 := HR1.out.ops.cell (i := k * 3 + 2) (by omega)
        have g0 := HR1.out.ops.frozen (k * 3)
        have g1 := HR1.out.ops.frozen (k * 3 + 1)
        have g2 := HR1.out.ops.frozen (k * 3 + 2)
        have n43 : b4 ≠ b3 := by omega
        have n03 : N ≠ b3 := by omega
        go_region_held3 (fun w' => w'.cell? ⟨b4, 0, none⟩ = some (.slice (some ⟨b3, 0, none⟩) n n) ∧ w'.cell? ⟨N, (T k % 3).toNat, none⟩ = some (.string (nmOf (txOf T k))))
          (first | exact ⟨xs, xn⟩ | exact ⟨drew_cell (set_far (set_far (set_far xs n43) n43) n43), drew_cell (set_far (set_far (set_far xn n03) n03) n03)⟩) (fail)
        have HR2 := hid (((HR1.out.setO (k * 3) (.string (nmOf (txOf T k)))).setO (k * 3 + 1) (.int .u8 3)).setO (k * 3 + 2) (.string ⟨#[]⟩)).drew
        have q3 : ((((w1.setCell ⟨b3, k * 3, none⟩ (.string (nmOf (txOf T k)))).setCell ⟨b3, k * 3 + 1, none⟩ (.int .u8 3)).setCell ⟨b3, k * 3 + 2, none⟩ (.string ⟨#[]⟩)).drew).cell? ⟨b, off + k * 3 + 2, none⟩ = some (.int .u8 (X k)) := drew_cell (set_far (set_far (set_far q2' (by omega)) (by omega)) (by omega))
        clear xs xn x0 x1 x2 g0 g1 g2 q2' HR1
        generalize (((w1.setCell ⟨b3, k * 3, none⟩ (.string (nmOf (txOf T k)))).setCell ⟨b3, k * 3 + 1, none⟩ (.int .u8 3)).setCell ⟨b3, k * 3 + 2, none⟩ (.string ⟨#[]⟩)).drew = w2 at *
        go_wp2
        go_roundw
        case rel =>
          refine ⟨k + 1, by omega, by go_num, _, _, _, HR2.out, ?_⟩
          refine HD.out.step (fun c hc => ?_) ?_ ?_ ?_ (fun c hc => ?_) ?_ (fun c hc => ?_) ?_
          · rw [if_neg (by omega), if_neg (by omega), if_neg (by omega)]
          · rw [if_neg (by omega), if_neg (by omega), if_pos rfl]
          · rw [if_neg (by omega), if_pos rfl, hac.out]
          · rw [if_pos rfl, itmOf, if_neg (by have := e.out; omega)]
          · rw [if_neg (by omega)]
          · rw [if_pos rfl, txOf, Int.toNat_of_nonneg m30]
          · rw [if_neg (by omega)]
          · rw [if_pos rfl, ioOf, if_neg (by have := e.out; omega)]
        case measure => simp [intOf]; omega
      · have hac : acOf A k = 4 := by unfold acOf; omega
        rw [hac] at xa
        replace e := hid e
        replace hac := hid hac
        go_wp2
        have HR1 := hid ((HR.out.setT k (.int .i64 (T k % 3))).setI k (.int .i64 (-1)))
        have nb2 : b < N := hbl2
        have q2' : ((wr.setCell ⟨b5, k, none⟩ (.int .i64 (T k % 3))).setCell ⟨b6, k, none⟩ (.int .i64 (-1))).cell? ⟨b, off + k * 3 + 2, none⟩ = some (.int .u8 (X k)) := set_far (set_far q2 (by omega)) (by omega)
        clear q0 q1 q2 xt xi gt gi xa HR
        generalize (wr.setCell ⟨b5, k, none⟩ (.int .i64 (T k % 3))).setCell ⟨b6, k, none⟩ (.int .i64 (-1)) = w1 at *
        have xs := HR1.out.sched
        have xn : w1.cell? ⟨N, (T k % 3).toNat, none⟩ = some (.string (nmOf (txOf T k))) := HR1.out.nm.cell (i := (T k % 3).toNat) (by omega)
        have x0 := HR1.out.ops.cell (i := k * 3) (by omega)
        have x1 := HR1.out.ops.cell (i := k * 3 + 1) (by omega)
        have x2 := HR1.out.ops.cell (i := k * 3 + 2) (by omega)
        have g0 := HR1.out.ops.frozen (k * 3)
        have g1 := HR1.out.ops.frozen (k * 3 + 1)
        have g2 := HR1.out.ops.frozen (k * 3 + 2)
        have n43 : b4 ≠ b3 := by omega
        have n03 : N ≠ b3 := by omega
        go_region_held3 (fun w' => w'.cell? ⟨b4, 0, none⟩ = some (.slice (some ⟨b3, 0, none⟩) n n) ∧ w'.cell? ⟨N, (T k % 3).toNat, none⟩ = some (.string (nmOf (txOf T k))))
          (first | exact ⟨xs, xn⟩ | exact ⟨drew_cell (set_far (set_far (set_far xs n43) n43) n43), drew_cell (set_far (set_far (set_far xn n03) n03) n03)⟩) (fail)
        have HR2 := hid (((HR1.out.setO (k * 3) (.string (nmOf (txOf T k)))).setO (k * 3 + 1) (.int .u8 4)).setO (k * 3 + 2) (.string ⟨#[]⟩)).drew
        have q3 : ((((w1.setCell ⟨b3, k * 3, none⟩ (.string (nmOf (txOf T k)))).setCell ⟨b3, k * 3 + 1, none⟩ (.int .u8 4)).setCell ⟨b3, k * 3 + 2, none⟩ (.string ⟨#[]⟩)).drew).cell? ⟨b, off + k * 3 + 2, none⟩ = some (.int .u8 (X k)) := drew_cell (set_far (set_far (set_far q2' (by omega)) (by omega)) (by omega))
        clear xs xn x0 x1 x2 g0 g1 g2 q2' HR1
        generalize (((w1.setCell ⟨b3, k * 3, none⟩ (.string (nmOf (txOf T k)))).setCell ⟨b3, k * 3 + 1, none⟩ (.int .u8 4)).setCell ⟨b3, k * 3 + 2, none⟩ (.string ⟨#[]⟩)).drew = w2 at *
        go_wp2
        go_roundw
        case rel =>
          refine ⟨k + 1, by omega, by go_num, _, _, _, HR2.out, ?_⟩
          refine HD.out.step (fun c hc => ?_) ?_ ?_ ?_ (fun c hc => ?_) ?_ (fun c hc => ?_) ?_
          · rw [if_neg (by omega), if_neg (by omega), if_neg (by omega)]
          · rw [if_neg (by omega), if_neg (by omega), if_pos rfl]
          · rw [if_neg (by omega), if_pos rfl, hac.out]
          · rw [if_pos rfl, itmOf, if_neg (by have := e.out; omega)]
          · rw [if_neg (by omega)]
          · rw [if_pos rfl, txOf, Int.toNat_of_nonneg m30]
          · rw [if_neg (by omega)]
          · rw [if_pos rfl, ioOf, if_neg (by have := e.out; omega)]
        case measure => simp [intOf]; omega
    · have hke : k = n := by omega
      have hlt2 : ¬ (k : Int) < (n : Int) := by omega
      subst hke
      obtain ⟨fo, ft, fi, hr, hd⟩ := HL.out
      have HR := hid hr
      have HD := hid hd
      have hsz := hr.size
      have hm49 := mk49
      have hm50 := mk50
      have hm54 := mk54
      clear hr hd HL hlt
      go_wp2
      have HP0 := hid (fun be bv => P0_start (T := T) (A := A) (X := X) be bv HR.out HD.out)
      have hz0' : (((wr.alloc (Obj.cells #[Value.slice none 0 0] 40)).alloc (Obj.cells #[Value.pointer none, Value.slice none 0 0, Value.slice none 0 0, Value.slice none 0 0, Value.slice none 0 0, Value.slice none 0 0, Value.slice none 0 0, Value.nilIface, Value.nilFunc, Value.bool false, Value.slice none 0 0, Value.slice none 0 0, Value.slice none 0 0, Value.slice none 0 0, Value.pointer none, Value.int IntKind.i64 0, Value.slice none 0 0, Value.slice none 0 0, Value.slice none 0 0, Value.slice none 0 0] 56))).heap.size = N + 9 := by simp [hsz]
      clear HR HD hsz
      generalize ((wr.alloc (Obj.cells #[Value.slice none 0 0] 40)).alloc (Obj.cells #[Value.pointer none, Value.slice none 0 0, Value.slice none 0 0, Value.slice none 0 0, Value.slice none 0 0, Value.slice none 0 0, Value.slice none 0 0, Value.nilIface, Value.nilFunc, Value.bool false, Value.slice none 0 0, Value.slice none 0 0, Value.slice none 0 0, Value.slice none 0 0, Value.pointer none, Value.int IntKind.i64 0, Value.slice none 0 0, Value.slice none 0 0, Value.slice none 0 0, Value.slice none 0 0] 56)) = w0 at *
      generalize hb8 : N + 7 + 1 = b8 at *
      generalize hb7 : N + 7 = b7 at *
      have n1 : b8 ≠ w0.heap.size := by omega
      have n2 : b8 ≠ w0.heap.size + 1 := by omega
      have HPr : Hid (w0.rowIs b8 56 20 zcell) := by have := (HP0.out 0 0).r; rw [← hb8, ← hb7]; exact this
      have HPq := hid ((HPr.out.alloc (Obj.cells #[Value.bool false, Value.bool false, Value.bool false] 4)).alloc (Obj.cells #[Value.bool false, Value.bool false, Value.bool false] 4))
      have HTH : Hid (World.there ((w0.alloc (Obj.cells #[Value.bool false, Value.bool false, Value.bool false] 4)).alloc (Obj.cells #[Value.bool false, Value.bool false, Value.bool false] 4)) b8 0 15) := fun j hj => by rw [Nat.zero_add]; exact ⟨by rw [HPq.out.cell (by omega)]; rfl, HPq.out.frozen j⟩
      have hz1 := hid hz0'
      clear hz0'
      go_cut [] from 126 to 139 (fun wx => ∃ be bv, ((be = N + 9 ∧ bv = N + 10) ∨ (be = N + 10 ∧ bv = N + 9)) ∧ Hid (P0 w wx (envOf N k be bv T A X) (f24 (envOf N k be bv T A X)) ∧ wx.rowIs be 4 3 (fun _ => .bool false) ∧ wx.rowIs bv 4 3 (fun _ => .bool false) ∧ wx.heap.size = N + 11))
      case first =>
        refine wp_region_noPanic ?_
        refine wp_region_held_drew (S := fun _ => True) (by kernel_rfl) (by trivial) (fun hHeld => ?_)
        refine wpAnyH_take (i := 0) (oi := { dst := some 126, op := Op.move (Operand.tmp 15), type := 41, pos := _, after := #[], guard := none }) (v := ?_) rfl (by kernel_rfl) (by kernel_rfl) (by kernel_rfl) (fun _ _ _ h => h) (Or.inl ⟨by rfl, ?_⟩) (by assumption) ?_
        rotate_left
        · intro w hSw
          (try dsimp only at hSw)
          go_simp
          try with_reducible rfl
        simp only [Act.put, List.setIfInBounds_toArray, List.set_cons_zero, List.set_cons_succ]
        refine wpAnyH_take (i := 1) (oi := { dst := some 127, op := Op.move (Operand.tmp 7), type := 26, pos := _, after := #[], guard := none }) (v := ?_) rfl (by kernel_rfl) (by kernel_rfl) (by kernel_rfl) (fun _ _ _ h => h) (Or.inl ⟨by rfl, ?_⟩) (by assumption) ?_
        rotate_left
        · intro w hSw
          (try dsimp only at hSw)
          go_simp
          try with_reducible rfl
        simp only [Act.put, List.setIfInBounds_toArray, List.set_cons_zero, List.set_cons_succ]
        refine wpAnyH_take (i := 2) (oi := { dst := some 128, op := Op.move (Operand.tmp 3), type := 23, pos := _, after := #[], guard := none }) (v := ?_) rfl (by kernel_rfl) (by kernel_rfl) (by kernel_rfl) (fun _ _ _ h => h) (Or.inl ⟨by rfl, ?_⟩) (by assumption) ?_
        rotate_left
        · intro w hSw
          (try dsimp only at hSw)
          go_simp
          try with_reducible rfl
        simp only [Act.put, List.setIfInBounds_toArray, List.set_cons_zero, List.set_cons_succ]
        refine wpAnyH_take (i := 3) (oi := { dst := some 129, op := Op.move (Operand.tmp 8), type := 28, pos := _, after := #[], guard := none }) (v := ?_) rfl (by kernel_rfl) (by kernel_rfl) (by kernel_rfl) (fun _ _ _ h => h) (Or.inl ⟨by rfl, ?_⟩) (by assumption) ?_
        rotate_left
        · intro w hSw
          (try dsimp only at hSw)
          go_simp
          try with_reducible rfl
        simp only [Act.put, List.setIfInBounds_toArray, List.set_cons_zero, List.set_cons_succ]
        refine wpAnyH_take (i := 4) (oi := { dst := some 130, op := Op.build 43 #[(0, Operand.tmp 128), (1, Operand.tmp 129)], type := 43, pos := _, after := #[{ on := 2, ground := Ground.data }, { on := 3, ground := Ground.data }], guard := none }) (v := ?_) rfl (by kernel_rfl) (by kernel_rfl) (by kernel_rfl) (fun _ _ _ h => h) (Or.inl ⟨by rfl, ?_⟩) (by assumption) ?_
        rotate_left
        · intro w hSw
          (try dsimp only at hSw)
          go_simp
          try with_reducible rfl
        simp only [Act.put, List.setIfInBounds_toArray, List.set_cons_zero, List.set_cons_succ]
        refine wpAnyH_take (i := 5) (oi := { dst := some 131, op := Op.move (Operand.tmp 4), type := 23, pos := _, after := #[], guard := none }) (v := ?_) rfl (by kernel_rfl) (by kernel_rfl) (by kernel_rfl) (fun _ _ _ h => h) (Or.inl ⟨by rfl, ?_⟩) (by assumption) ?_
        rotate_left
        · intro w hSw
          (try dsimp only at hSw)
          go_simp
          try with_reducible rfl
        simp only [Act.put, List.setIfInBounds_toArray, List.set_cons_zero, List.set_cons_succ]
        refine wpAnyH_take (i := 6) (oi := { dst := some 132, op := Op.move (Operand.tmp 9), type := 28, pos := _, after := #[], guard := none }) (v := ?_) rfl (by kernel_rfl) (by kernel_rfl) (by kernel_rfl) (fun _ _ _ h => h) (Or.inl ⟨by rfl, ?_⟩) (by assumption) ?_
        rotate_left
        · intro w hSw
          (try dsimp only at hSw)
          go_simp
          try with_reducible rfl
        simp only [Act.put, List.setIfInBounds_toArray, List.set_cons_zero, List.set_cons_succ]
        refine wpAnyH_take (i := 7) (oi := { dst := some 133, op := Op.build 45 #[(0, Operand.tmp 131), (1, Operand.tmp 132)], type := 45, pos := _, after := #[{ on := 5, ground := Ground.data }, { on := 6, ground := Ground.data }], guard := none }) (v := ?_) rfl (by kernel_rfl) (by kernel_rfl) (by kernel_rfl) (fun _ _ _ h => h) (Or.inl ⟨by rfl, ?_⟩) (by assumption) ?_
        rotate_left
        · intro w hSw
          (try dsimp only at hSw)
          go_simp
          try with_reducible rfl
        simp only [Act.put, List.setIfInBounds_toArray, List.set_cons_zero, List.set_cons_succ]
        refine wpAnyH_take (i := 8) (oi := { dst := some 134, op := Op.makeFunc (Fn.func 5) #[] #[Operand.tmp 14], type := 48, pos := _, after := #[], guard := none }) (v := ?_) rfl (by kernel_rfl) (by kernel_rfl) (by kernel_rfl) (fun _ _ _ h => h) (Or.inl ⟨by rfl, ?_⟩) (by assumption) ?_
        rotate_left
        · intro w hSw
          (try dsimp only at hSw)
          go_simp
          try with_reducible rfl
        simp only [Act.put, List.setIfInBounds_toArray, List.set_cons_zero, List.set_cons_succ]
        refine wpAnyH_ready (rs := [9, 10]) (by kernel_rfl) (by simp) ?_
        refine AllReadyH.cons (o := { dst := some 135, op := Op.makeSlice 49 (Operand.const (Value.int IntKind.i64 3)) (Operand.const (Value.int IntKind.i64 3)), type := 49, pos := _, after := #[], guard := none }) rfl (fun K hK => ?_) ?_
        · go_simp
          refine hK.out _ _ trivial (fun hHeld => ?_)
          clear hK K
          try simp only [Act.put, List.setIfInBounds_toArray, List.set_cons_zero, List.set_cons_succ]
          refine wpAnyH_ready (rs := [10]) (by kernel_rfl) (by simp) ?_
          refine AllReadyH.cons (o := { dst := some 136, op := Op.makeSlice 49 (Operand.const (Value.int IntKind.i64 3)) (Operand.const (Value.int IntKind.i64 3)), type := 49, pos := _, after := #[], guard := none }) rfl (fun K hK => ?_) AllReadyH.nil
          go_simp
          refine hK.out _ _ trivial (fun hHeld => ?_)
          clear hK K
          try simp only [Act.put, List.setIfInBounds_toArray, List.set_cons_zero, List.set_cons_succ]
          refine wpAnyH_take (i := 11) (oi := { dst := some 137, op := Op.build 53 #[(0, Operand.tmp 127), (1, Operand.tmp 130), (2, Operand.tmp 133), (4, Operand.tmp 134), (6, Operand.tmp 135), (7, Operand.tmp 136)], type := 53, pos := _, after := #[{ on := 1, ground := Ground.data }, { on := 4, ground := Ground.data }, { on := 7, ground := Ground.data }, { on := 8, ground := Ground.data }, { on := 9, ground := Ground.data }, { on := 10, ground := Ground.data }], guard := none }) (v := ?_) rfl (by kernel_rfl) (by kernel_rfl) (by kernel_rfl) (fun _ _ _ h => h) (Or.inl ⟨by rfl, ?_⟩) (by assumption) ?_
          rotate_left
          · intro w hSw
            (try dsimp only at hSw)
            go_simp
            try with_reducible rfl
          simp only [Act.put, List.setIfInBounds_toArray, List.set_cons_zero, List.set_cons_succ]
          refine wpAnyH_take (i := 12) (oi := { dst := some 138, op := Op.nilCheck (Operand.tmp 126), type := 0, pos := _, after := #[{ on := 0, ground := Ground.data }, { on := 0, ground := Ground.phase }, { on := 1, ground := Ground.phase }, { on := 2, ground := Ground.phase }, { on := 3, ground := Ground.phase }, { on := 4, ground := Ground.phase }, { on := 5, ground := Ground.phase }, { on := 6, ground := Ground.phase }, { on := 7, ground := Ground.phase }, { on := 8, ground := Ground.phase }, { on := 9, ground := Ground.phase }, { on := 10, ground := Ground.phase }, { on := 11, ground := Ground.phase }], guard := none }) (v := ?_) rfl (by kernel_rfl) (by kernel_rfl) (by kernel_rfl) (fun _ _ _ h => h) (Or.inl ⟨by rfl, ?_⟩) (by assumption) ?_
          rotate_left
          · intro w hSw
            (try dsimp only at hSw)
            go_simp
            try with_reducible rfl
          simp only [Act.put, List.setIfInBounds_toArray, List.set_cons_zero, List.set_cons_succ]
          refine wpAnyH_take (i := 13) (oi := { dst := some 139, op := Op.fieldAddr 56 (Operand.tmp 138) 0, type := 0, pos := _, after := #[{ on := 12, ground := Ground.data }, { on := 0, ground := Ground.phase }, { on := 1, ground := Ground.phase }, { on := 2, ground := Ground.phase }, { on := 3, ground := Ground.phase }, { on := 4, ground := Ground.phase }, { on := 5, ground := Ground.phase }, { on := 6, ground := Ground.phase }, { on := 7, ground := Ground.phase }, { on := 8, ground := Ground.phase }, { on := 9, ground := Ground.phase }, { on := 10, ground := Ground.phase }, { on := 11, ground := Ground.phase }], guard := none }) (v := ?_) rfl (by kernel_rfl) (by kernel_rfl) (by kernel_rfl) (fun _ _ _ h => h) (Or.inl ⟨by rfl, ?_⟩) (by assumption) ?_
          rotate_left
          · intro w hSw
            (try dsimp only at hSw)
            go_simp
            try with_reducible rfl
          simp only [Act.put, List.setIfInBounds_toArray, List.set_cons_zero, List.set_cons_succ]
          refine wpAnyH_ready (rs := [14]) (by kernel_rfl) (by simp) ?_
          refine AllReadyH.cons (o := { dst := none, op := Op.store 53 (Operand.tmp 139) (Operand.tmp 137), type := 0, pos := _, after := #[{ on := 13, ground := Ground.data }, { on := 11, ground := Ground.data }, { on := 0, ground := Ground.phase }, { on := 1, ground := Ground.phase }, { on := 2, ground := Ground.phase }, { on := 3, ground := Ground.phase }, { on := 4, ground := Ground.phase }, { on := 5, ground := Ground.phase }, { on := 6, ground := Ground.phase }, { on := 7, ground := Ground.phase }, { on := 8, ground := Ground.phase }, { on := 9, ground := Ground.phase }, { on := 10, ground := Ground.phase }, { on := 11, ground := Ground.phase }], guard := none }) rfl (fun K hK => ?_) AllReadyH.nil
          refine step_store_mid rfl 53 _ _ rfl b8 0 _ rfl rfl HTH.out (by kernel_rfl) (by simp [Value.oneCell']) ?_
          refine hK.out _ _ trivial (fun hHeld => ?_)
          clear hK K
          try simp only [Act.put, List.setIfInBounds_toArray, List.set_cons_zero, List.set_cons_succ]
          refine wpAnyH_done (by kernel_rfl) ?_ _
          refine NoPanic.normal ?_
          generalize hb10 : w0.heap.size + 1 = b10 at *
          generalize hb9 : w0.heap.size = b9 at *
          (try go_wp2_with fail)
          go_meet
          exact ⟨b9, b10, by have := hz1.out; omega, P24 (b1 := b1) (b4 := b4) (b5 := b5) (b6 := b6) (b7 := b7) (b8 := b8) (envOf_lay N k b9 b10 T A X hn (by have := hz1.out; omega) HBY.out) (by omega) (by omega) (by omega) (by omega) (by omega) (by omega) (hb9.trans hz1.out) (by have := hz1.out; omega) (HP0.out b9 b10)⟩
        refine AllReadyH.cons (o := { dst := some 136, op := Op.makeSlice 49 (Operand.const (Value.int IntKind.i64 3)) (Operand.const (Value.int IntKind.i64 3)), type := 49, pos := _, after := #[], guard := none }) rfl (fun K hK => ?_) AllReadyH.nil
        go_simp
        refine hK.out _ _ trivial (fun hHeld => ?_)
        clear hK K
        try simp only [Act.put, List.setIfInBounds_toArray, List.set_cons_zero, List.set_cons_succ]
        refine wpAnyH_ready (rs := [9]) (by kernel_rfl) (by simp) ?_
        refine AllReadyH.cons (o := { dst := some 135, op := Op.makeSlice 49 (Operand.const (Value.int IntKind.i64 3)) (Operand.const (Value.int IntKind.i64 3)), type := 49, pos := _, after := #[], guard := none }) rfl (fun K hK => ?_) AllReadyH.nil
        go_simp
        refine hK.out _ _ trivial (fun hHeld => ?_)
        clear hK K
        try simp only [Act.put, List.setIfInBounds_toArray, List.set_cons_zero, List.set_cons_succ]
        refine wpAnyH_take (i := 11) (oi := { dst := some 137, op := Op.build 53 #[(0, Operand.tmp 127), (1, Operand.tmp 130), (2, Operand.tmp 133), (4, Operand.tmp 134), (6, Operand.tmp 135), (7, Operand.tmp 136)], type := 53, pos := _, after := #[{ on := 1, ground := Ground.data }, { on := 4, ground := Ground.data }, { on := 7, ground := Ground.data }, { on := 8, ground := Ground.data }, { on := 9, ground := Ground.data }, { on := 10, ground := Ground.data }], guard := none }) (v := ?_) rfl (by kernel_rfl) (by kernel_rfl) (by kernel_rfl) (fun _ _ _ h => h) (Or.inl ⟨by rfl, ?_⟩) (by assumption) ?_
        rotate_left
        · intro w hSw
          (try dsimp only at hSw)
          go_simp
          try with_reducible rfl
        simp only [Act.put, List.setIfInBounds_toArray, List.set_cons_zero, List.set_cons_succ]
        refine wpAnyH_take (i := 12) (oi := { dst := some 138, op := Op.nilCheck (Operand.tmp 126), type := 0, pos := _, after := #[{ on := 0, ground := Ground.data }, { on := 0, ground := Ground.phase }, { on := 1, ground := Ground.phase }, { on := 2, ground := Ground.phase }, { on := 3, ground := Ground.phase }, { on := 4, ground := Ground.phase }, { on := 5, ground := Ground.phase }, { on := 6, ground := Ground.phase }, { on := 7, ground := Ground.phase }, { on := 8, ground := Ground.phase }, { on := 9, ground := Ground.phase }, { on := 10, ground := Ground.phase }, { on := 11, ground := Ground.phase }], guard := none }) (v := ?_) rfl (by kernel_rfl) (by kernel_rfl) (by kernel_rfl) (fun _ _ _ h => h) (Or.inl ⟨by rfl, ?_⟩) (by assumption) ?_
        rotate_left
        · intro w hSw
          (try dsimp only at hSw)
          go_simp
          try with_reducible rfl
        simp only [Act.put, List.setIfInBounds_toArray, List.set_cons_zero, List.set_cons_succ]
        refine wpAnyH_take (i := 13) (oi := { dst := some 139, op := Op.fieldAddr 56 (Operand.tmp 138) 0, type := 0, pos := _, after := #[{ on := 12, ground := Ground.data }, { on := 0, ground := Ground.phase }, { on := 1, ground := Ground.phase }, { on := 2, ground := Ground.phase }, { on := 3, ground := Ground.phase }, { on := 4, ground := Ground.phase }, { on := 5, ground := Ground.phase }, { on := 6, ground := Ground.phase }, { on := 7, ground := Ground.phase }, { on := 8, ground := Ground.phase }, { on := 9, ground := Ground.phase }, { on := 10, ground := Ground.phase }, { on := 11, ground := Ground.phase }], guard := none }) (v := ?_) rfl (by kernel_rfl) (by kernel_rfl) (by kernel_rfl) (fun _ _ _ h => h) (Or.inl ⟨by rfl, ?_⟩) (by assumption) ?_
        rotate_left
        · intro w hSw
          (try dsimp only at hSw)
          go_simp
          try with_reducible rfl
        simp only [Act.put, List.setIfInBounds_toArray, List.set_cons_zero, List.set_cons_succ]
        refine wpAnyH_ready (rs := [14]) (by kernel_rfl) (by simp) ?_
        refine AllReadyH.cons (o := { dst := none, op := Op.store 53 (Operand.tmp 139) (Operand.tmp 137), type := 0, pos := _, after := #[{ on := 13, ground := Ground.data }, { on := 11, ground := Ground.data }, { on := 0, ground := Ground.phase }, { on := 1, ground := Ground.phase }, { on := 2, ground := Ground.phase }, { on := 3, ground := Ground.phase }, { on := 4, ground := Ground.phase }, { on := 5, ground := Ground.phase }, { on := 6, ground := Ground.phase }, { on := 7, ground := Ground.phase }, { on := 8, ground := Ground.phase }, { on := 9, ground := Ground.phase }, { on := 10, ground := Ground.phase }, { on := 11, ground := Ground.phase }], guard := none }) rfl (fun K hK => ?_) AllReadyH.nil
        refine step_store_mid rfl 53 _ _ rfl b8 0 _ rfl rfl HTH.out (by kernel_rfl) (by simp [Value.oneCell']) ?_
        refine hK.out _ _ trivial (fun hHeld => ?_)
        clear hK K
        try simp only [Act.put, List.setIfInBounds_toArray, List.set_cons_zero, List.set_cons_succ]
        refine wpAnyH_done (by kernel_rfl) ?_ _
        refine NoPanic.normal ?_
        generalize hb10 : w0.heap.size + 1 = b10 at *
        generalize hb9 : w0.heap.size = b9 at *
        (try go_wp2_with fail)
        go_meet
        exact ⟨b10, b9, by have := hz1.out; omega, P24 (b1 := b1) (b4 := b4) (b5 := b5) (b6 := b6) (b7 := b7) (b8 := b8) (envOf_lay N k b10 b9 T A X hn (by have := hz1.out; omega) HBY.out) (by omega) (by omega) (by omega) (by omega) (by omega) (by omega) (hb9.trans hz1.out) (by have := hz1.out; omega) (HP0.out b10 b9)⟩
      case rest =>
        rename World => w1
        obtain ⟨be, bv, hbb, HP1⟩ := hcut
        have HLY := hid (envOf_lay N k be bv T A X hn hbb HBY.out)
        have e8 : b8 = N + 8 := by omega
        clear HP0 HPr HPq HTH hz1 n1 n2
        have hs1 := HP1.out.2.2.2
        have c16 : w1.cell? ⟨b8, 16, none⟩ = some (.slice none 0 0) := by rw [e8]; exact HP1.out.1.r.cell (i := 16) (by omega)
        have f16 : w1.frozen? ⟨b8, 16, none⟩ = false := by rw [e8]; exact HP1.out.1.r.frozen 16
        have c17 : w1.cell? ⟨b8, 17, none⟩ = some (.slice none 0 0) := by rw [e8]; exact HP1.out.1.r.cell (i := 17) (by omega)
        have f17 : w1.frozen? ⟨b8, 17, none⟩ = false := by rw [e8]; exact HP1.out.1.r.frozen 17
        have c18 : w1.cell? ⟨b8, 18, none⟩ = some (.slice none 0 0) := by rw [e8]; exact HP1.out.1.r.cell (i := 18) (by omega)
        have f18 : w1.frozen? ⟨b8, 18, none⟩ = false := by rw [e8]; exact HP1.out.1.r.frozen 18
        have c19 : w1.cell? ⟨b8, 19, none⟩ = some (.slice none 0 0) := by rw [e8]; exact HP1.out.1.r.cell (i := 19) (by omega)
        have f19 : w1.frozen? ⟨b8, 19, none⟩ = false := by rw [e8]; exact HP1.out.1.r.frozen 19
        have n0 : b8 < w1.heap.size := by omega
        have n1 : b8 < w1.heap.size + 1 := by omega
        have n2 : b8 < w1.heap.size + 1 + 1 := by omega
        have n3 : b8 < w1.heap.size + 1 + 1 + 1 := by omega
        replace hs1 := hid hs1
        replace e8 := hid e8
        replace hbb := hid hbb
        go_wp2
        have HBO := hid (start_both (b1 := b1) (b4 := b4) (b5 := b5) (b6 := b6) (b7 := b7) (b8 := b8) HLY.out (by omega) (by omega) (by omega) (by omega) (by omega) e8.out HP1.out rfl)
        clear HLY HP1 c16 c17 c18 c19 f16 f17 f18 f19 n0 n1 n2 n3 hs1 e8 hbb
        generalize ((((((((((((((w1.setCell ⟨b8, 17, none⟩ (Value.slice (some ⟨w1.heap.size, 0, none⟩) 3 3)).setCell ⟨b8, 18, none⟩ (Value.slice (some ⟨w1.heap.size + 1, 0, none⟩) 3 3)).setCell ⟨b8, 19, none⟩ (Value.slice (some ⟨w1.heap.size + 1 + 1, 0, none⟩) 3 3)).setCell ⟨b8, 16, none⟩ (Value.slice (some ⟨w1.heap.size + 1 + 1 + 1, 0, none⟩) 3 3)).alloc (Obj.cells #[Value.slice none 0 0, Value.slice none 0 0, Value.slice none 0 0] 28)).alloc (Obj.cells #[Value.slice none 0 0, Value.slice none 0 0, Value.slice none 0 0] 28)).alloc (Obj.cells #[Value.slice none 0 0, Value.slice none 0 0, Value.slice none 0 0] 80)).alloc (Obj.cells #[Value.int IntKind.i64 (-1), Value.int IntKind.i64 (-1), Value.int IntKind.i64 (-1)] 3)).alloc (Obj.cells #[Value.int IntKind.i64 (-1), Value.int IntKind.i64 (-1), Value.int IntKind.i64 (-1)] 61)).alloc (Obj.cells #[Value.slice none 0 0, Value.slice none 0 0, Value.slice none 0 0] 62)).alloc (Obj.cells #[Value.slice none 0 0, Value.slice none 0 0, Value.slice none 0 0] 62)).alloc (Obj.cells #[Value.slice none 0 0, Value.slice none 0 0, Value.slice none 0 0] 64)).alloc (Obj.cells #[Value.bool false, Value.bool false, Value.bool false] 65)).alloc (Obj.cells #[Value.bool false, Value.bool false, Value.bool false] 65)) = w2 at *
        obtain ⟨E, F, q1, q2, q3, q4, q5, q6, q7, q8, q9, q10, q11, q12, q13, q14, hl, hm, hB, hBel⟩ := HBO.out
        rw [q14, q13, q12, q11, q10, q9]
        have HB := hid hB
        have HBel := hid hBel
        have HZ0 := hid hz0
        clear HBO q9 q10 q11 q12 q13 q14 hB hBel hz0 hb1 hb2 hb3 hb4 hb5 hb6 hb7 hb8 hm49 hm50 hm54 HIN HBY hlt2 hni hn hk
        subst q1 q2 q3 q4 q5 q6 q7 q8
        go_loopw [25, 16, 21, 24] (fun u25 u16 u21 u24 wr => ∃ (i : Nat) (s : St) (mw : Nat → List (Nat × Nat)), u25 = .int .i64 (i : Int) ∧ u21 = .int .i64 (s.commits : Int) ∧ Hid (i ≤ E.n ∧ Lh w wr E F s (withW s mw) u16 u24 ∧ Inv E i s ∧ WR i s mw)) (fun u _ _ _ _ => E.n - (intOf u).toNat)
        case atStart =>
          exact ⟨0, s0, nilW, rfl, rfl, Nat.zero_le _, ⟨⟨nilV, nilV, HB.out, rfl, rfl⟩, HBel.out⟩, inv_s0 E, wr_s0⟩
        case round =>
          clear HB HBel
          obtain ⟨i, s, mw, rfl, rfl, HR⟩ := hrel
          have hn300 := hl.n
          by_cases hlt : i < E.n
          · cases hvt : s.victim (E.tx i) with
            | true =>
              as_aux_lemma =>
                obtain ⟨hi, ⟨⟨V, U, hB, e0, e10⟩, hbel⟩, hI, hW⟩ := HR.out
                have ht := hl.tx i hlt
                have hti : (E.tx i : Int) < 3 := by omega
                have hii : (i : Int) < (E.n : Int) := by omega
                have hw1 : IntKind.i64.wrap ((i : Int) + 1) = (i : Int) + 1 := by rw [IntKind.wrap_i64]; omega
                have dt := hB.pm.fix.st.tx i hlt
                have dv : wr.cell? ⟨F.mv, E.tx i, none⟩ = some (.bool (s.victim (E.tx i))) := hB.mm.fix.vi.cell ht
                have HB := hid hB
                have HI := hid hI
                have HW := hid hW
                have HE0 := hid e0
                have HE10 := hid e10
                have HBE := hid hbel
                clear HR hB hI hW e0 e10 hbel
                rw [hvt] at dv
                replace hvt := hid hvt
                go_wp2
                go_roundw
                case rel => exact ⟨i + 1, s, mw, by go_num, rfl, hlt, ⟨⟨V, U, HB.out, HE0.out, HE10.out⟩, HBE.out⟩, HI.out.mono, HW.out.mono⟩
                case measure => simp [intOf]; omega
            | false =>
              obtain ⟨hi, hLh, hI, hW⟩ := HR.out
              rcases hl.ac i hlt with ha | ha | ha | ha
              · refine round_read hl hm hlt hLh hI hW hvt ha ?_
                intros
                rename_i h21 hL'
                go_roundw
                case rel => (repeat apply Exists.intro); exact ⟨⟨i + 1, subSt E s i, nextMw E s mw i, by go_num, h21, hlt, hL', hI.sub hl hlt, hW.sub hl hI hlt⟩, rfl⟩
                case measure => simp [intOf]; omega
              · refine round_write hl hm hlt hLh hI hW hvt ha ?_
                intros
                rename_i h21 hL'
                go_roundw
                case rel => (repeat apply Exists.intro); exact ⟨⟨i + 1, subSt E s i, nextMw E s mw i, by go_num, h21, hlt, hL', hI.sub hl hlt, hW.sub hl hI hlt⟩, rfl⟩
                case measure => simp [intOf]; omega
              · by_cases hno : inval (beginSt (withW s mw) (E.tx i)).wr ((beginSt (withW s mw) (E.tx i)).began (E.tx i)) ((beginSt (withW s mw) (E.tx i)).reads (E.tx i)) = none
                · refine round_good hl hm hlt hLh hI hW hvt ha hno ?_
                  intros
                  rename_i h21 hL'
                  go_roundw
                  case rel => (repeat apply Exists.intro); exact ⟨⟨i + 1, subSt E s i, nextMw E s mw i, by go_num, h21, hlt, hL', hI.sub hl hlt, hW.sub hl hI hlt⟩, rfl⟩
                  case measure => simp [intOf]; omega
                · refine round_bad hl hm hlt hLh hI hW hvt ha hno ?_
                  intros
                  rename_i h21 hL'
                  go_roundw
                  case rel => (repeat apply Exists.intro); exact ⟨⟨i + 1, subSt E s i, nextMw E s mw i, by go_num, h21, hlt, hL', hI.sub hl hlt, hW.sub hl hI hlt⟩, rfl⟩
                  case measure => simp [intOf]; omega
              · refine round_abort hl hm hlt hLh hI hW hvt ha ?_
                intros
                rename_i h21 hL'
                go_roundw
                case rel => (repeat apply Exists.intro); exact ⟨⟨i + 1, subSt E s i, nextMw E s mw i, by go_num, h21, hlt, hL', hI.sub hl hlt, hW.sub hl hI hlt⟩, rfl⟩
                case measure => simp [intOf]; omega
          · as_aux_lemma =>
              obtain ⟨hi, ⟨⟨V, U, hB, e0, e10⟩, hbel⟩, hI, hW⟩ := HR.out
              have hie : i = E.n := by omega
              have hlt2 : ¬ (i : Int) < (E.n : Int) := by omega
              obtain ⟨ag, cg, hvg, hrg⟩ := row_shape (show wr.ownsRow E.base 60 12 (V 0) s.ev.length (evs s.ev) from hB.pm.bank.own 0 (by decide))
              obtain ⟨aw, cw, hvw, hrw⟩ := row_shape (show wr.ownsRow F.base 60 12 (U 0) s.ev.length (evs s.ev) from hB.mm.own_ev)
              have cG : wr.cell? ⟨E.bg, 0, none⟩ = some (.slice ag s.ev.length cg) := by rw [← hvg]; exact hB.pm.fix.got.cell (by omega)
              obtain rfl : u16 = .slice aw s.ev.length cw := e0.symm.trans hvw
              obtain ⟨av, cv, hvv, hrv⟩ := row_shape (show wr.ownsRow E.base 3 1 (V 10) s.victims.length (ints s.victims) from hB.pm.bank.own 10 (by decide))
              obtain ⟨ax, cx, hvx, hrx⟩ := row_shape (show wr.ownsRow F.base 3 1 (U 10) s.victims.length (ints s.victims) from hB.mm.own_vs)
              obtain rfl : u24 = .slice ax s.victims.length cx := e10.symm.trans hvx
              have hlev := hI.ev
              have hlvs := hI.vs
              have HB := hid hB
              have HI := hid hI
              have HBE := hid hbel
              have HRG := hid hrg
              have HRW := hid hrw
              have HRV := hid hrv
              have HRX := hid hrx
              have HVV := hid hvv
              clear HR hB hI hW e0 e10 hbel hrg hrw hrv hrx hvg hvw hvv hvx hie
              go_wp2
              go_loopw [39] (fun u wq => ∃ k : Nat, u = .int .i64 (k : Int) ∧ Hid (k ≤ s.ev.length ∧ Below wr.heap.size wr wq)) (fun u _ => s.ev.length - (intOf u).toNat)
              case atStart => exact ⟨0, rfl, Nat.zero_le _, Below.refl _ _⟩
              case round =>
                rename World => wq
                obtain ⟨k, rfl, HK⟩ := hrel
                by_cases hkl : k < s.ev.length
                · have hki : (k : Int) < (s.ev.length : Int) := by omega
                  obtain ⟨gg, f1, f2, f3⟩ := HRG.out (by omega)
                  obtain ⟨gw, f4, f5, f6⟩ := HRW.out (by omega)
                  subst f1 f4
                  obtain ⟨ev, hev⟩ : ∃ ev, s.ev[k]'hkl = ev := ⟨_, rfl⟩
                  obtain ⟨x0, x1, x2, x3, x4, x5, x6, x7, x8, x9, x10, x11⟩ := ev_row f3 k hkl ev hev
                  obtain ⟨v0, v1, v2, v3, v4, v5, v6, v7, v8, v9, v10, v11⟩ := ev_row f6 k hkl ev hev
                  have cq := bel_cell HK.out.2 cG
                  replace x0 := bel_cell HK.out.2 x0
                  replace v0 := bel_cell HK.out.2 v0
                  replace x1 := bel_cell HK.out.2 x1
                  replace v1 := bel_cell HK.out.2 v1
                  replace x2 := bel_cell HK.out.2 x2
                  replace v2 := bel_cell HK.out.2 v2
                  replace x3 := bel_cell HK.out.2 x3
                  replace v3 := bel_cell HK.out.2 v3
                  replace x4 := bel_cell HK.out.2 x4
                  replace v4 := bel_cell HK.out.2 v4
                  replace x5 := bel_cell HK.out.2 x5
                  replace v5 := bel_cell HK.out.2 v5
                  replace x6 := bel_cell HK.out.2 x6
                  replace v6 := bel_cell HK.out.2 v6
                  replace x7 := bel_cell HK.out.2 x7
                  replace v7 := bel_cell HK.out.2 v7
                  replace x8 := bel_cell HK.out.2 x8
                  replace v8 := bel_cell HK.out.2 v8
                  replace x9 := bel_cell HK.out.2 x9
                  replace v9 := bel_cell HK.out.2 v9
                  replace x10 := bel_cell HK.out.2 x10
                  replace v10 := bel_cell HK.out.2 v10
                  replace x11 := bel_cell HK.out.2 x11
                  replace v11 := bel_cell HK.out.2 v11
                  clear f3 f6 cG hev
                  as_aux_lemma =>
                   go_wp2_with fail
                   go_region_held3 (fun w' => w'.cell? ⟨E.bg, 0, none⟩ = some (.slice (some ⟨gg, 0, none⟩) s.ev.length cg) ∧ w'.cell? ⟨gg, k * 12, none⟩ = some (.int .u8 ev.kind) ∧ w'.cell? ⟨gg, k * 12 + 1, none⟩ = some (.int .u8 0) ∧ w'.cell? ⟨gg, k * 12 + 2, none⟩ = some (.int .i64 ev.step) ∧ w'.cell? ⟨gg, k * 12 + 3, none⟩ = some (.string ev.txn) ∧ w'.cell? ⟨gg, k * 12 + 4, none⟩ = some (.int .u8 ev.act) ∧ w'.cell? ⟨gg, k * 12 + 5, none⟩ = some (.string ev.item) ∧ w'.cell? ⟨gg, k * 12 + 6, none⟩ = some (.slice none 0 0) ∧ w'.cell? ⟨gg, k * 12 + 7, none⟩ = some (.slice none 0 0) ∧ w'.cell? ⟨gg, k * 12 + 8, none⟩ = some (.int .i64 0) ∧ w'.cell? ⟨gg, k * 12 + 9, none⟩ = some (.int .i64 0) ∧ w'.cell? ⟨gg, k * 12 + 10, none⟩ = some (.string ev.eitem) ∧ w'.cell? ⟨gg, k * 12 + 11, none⟩ = some (.string ev.writer) ∧ w'.cell? ⟨gw, k * 12, none⟩ = some (.int .u8 ev.kind) ∧ w'.cell? ⟨gw, k * 12 + 1, none⟩ = some (.int .u8 0) ∧ w'.cell? ⟨gw, k * 12 + 2, none⟩ = some (.int .i64 ev.step) ∧ w'.cell? ⟨gw, k * 12 + 3, none⟩ = some (.string ev.txn) ∧ w'.cell? ⟨gw, k * 12 + 4, none⟩ = some (.int .u8 ev.act) ∧ w'.cell? ⟨gw, k * 12 + 5, none⟩ = some (.string ev.item) ∧ w'.cell? ⟨gw, k * 12 + 6, none⟩ = some (.slice none 0 0) ∧ w'.cell? ⟨gw, k * 12 + 7, none⟩ = some (.slice none 0 0) ∧ w'.cell? ⟨gw, k * 12 + 8, none⟩ = some (.int .i64 0) ∧ w'.cell? ⟨gw, k * 12 + 9, none⟩ = some (.int .i64 0) ∧ w'.cell? ⟨gw, k * 12 + 10, none⟩ = some (.string ev.eitem) ∧ w'.cell? ⟨gw, k * 12 + 11, none⟩ = some (.string ev.writer))
                     (first | exact ⟨yG, y0, y1, y2, y3, y4, y5, y6, y7, y8, y9, y10, y11, z0, z1, z2, z3, z4, z5, z6, z7, z8, z9, z10, z11⟩ | go_keep)
                     (first | (go_at_call 7; refine (beq_run ev _).mono ?_; rintro r w5 ⟨rfl, hb5⟩; have yG := bel_cell hb5 (by exact cq); have y0 := bel_cell hb5 (by exact x0); have y1 := bel_cell hb5 (by exact x1); have y2 := bel_cell hb5 (by exact x2); have y3 := bel_cell hb5 (by exact x3); have y4 := bel_cell hb5 (by exact x4); have y5 := bel_cell hb5 (by exact x5); have y6 := bel_cell hb5 (by exact x6); have y7 := bel_cell hb5 (by exact x7); have y8 := bel_cell hb5 (by exact x8); have y9 := bel_cell hb5 (by exact x9); have y10 := bel_cell hb5 (by exact x10); have y11 := bel_cell hb5 (by exact x11); have z0 := bel_cell hb5 (by exact v0); have z1 := bel_cell hb5 (by exact v1); have z2 := bel_cell hb5 (by exact v2); have z3 := bel_cell hb5 (by exact v3); have z4 := bel_cell hb5 (by exact v4); have z5 := bel_cell hb5 (by exact v5); have z6 := bel_cell hb5 (by exact v6); have z7 := bel_cell hb5 (by exact v7); have z8 := bel_cell hb5 (by exact v8); have z9 := bel_cell hb5 (by exact v9); have z10 := bel_cell hb5 (by exact v10); have z11 := bel_cell hb5 (by exact v11); have HK5 := hid (bel2 (Below.drew HK.out.2) hb5)))
                   clear hb5 cq yG x0 v0 y0 z0 x1 v1 y1 z1 x2 v2 y2 z2 x3 v3 y3 z3 x4 v4 y4 z4 x5 v5 y5 z5 x6 v6 y6 z6 x7 v7 y7 z7 x8 v8 y8 z8 x9 v9 y9 z9 x10 v10 y10 z10 x11 v11 y11 z11
                   go_wp2
                   go_roundw
                   case rel => exact ⟨k + 1, by go_num, by have := HK.out.1; omega, HK5.out⟩
                   case measure => simp [intOf]; omega
                · have hki : ¬ (k : Int) < (s.ev.length : Int) := by omega
                  have HBq := hid (HB.out.below hl HK.out.2)
                  have HBEq := hid (HBE.out.trans (HK.out.2.mono (bn_le hl HB.out.pm)))
                  have c15 : wq.cell? ⟨E.br, 15, none⟩ = some (.int .i64 (s.commits : Int)) := HBq.out.pm.fix.r.cell (by omega)
                  have c12 : wq.cell? ⟨E.br, 12, none⟩ = some (.slice av s.victims.length cv) := by rw [← HVV.out]; exact HBq.out.pm.fix.r.cell (i := 12) (by omega)
                  clear cG
                  as_aux_lemma =>
                   go_wp2_with fail
                   refine (equal_run av ax s.victims.length cv cx (fun j => ((s.victims.getD j 0 : Nat) : Int)) _ (by omega) ?_ ?_).mono ?_
                   · intro h0
                     obtain ⟨g, y1, y2, y3⟩ := HRV.out h0
                     exact ⟨g, y1, fun j hj => (bel_cell HK.out.2 ((y3 j (by omega)).trans (ints_get _ _ hj)))⟩
                   · intro h0
                     obtain ⟨g, y1, y2, y3⟩ := HRX.out h0
                     exact ⟨g, y1, fun j hj => (bel_cell HK.out.2 ((y3 j (by omega)).trans (ints_get _ _ hj)))⟩
                   · rintro r w6 ⟨rfl, n6, rfl⟩
                     replace HBq := hid (HBq.out.below hl (below_drewN (Below.refl _ _) n6))
                     replace HBEq := hid (below_drewN HBEq.out n6)
                     clear c15 c12 HRG HRW HRV HRX HVV HK HB HBE
                     generalize wq.drewN n6 = w7 at *
                     go_wp2
                     go_loopw [40] (fun u wz => ∃ k : Nat, u = .int .i64 (k : Int) ∧ Hid (k ≤ 3 ∧ Below w7.heap.size w7 wz)) (fun u _ => 3 - (intOf u).toNat)
                     case atStart => exact ⟨0, rfl, Nat.zero_le _, Below.refl _ _⟩
                     case round =>
                       rename World => wz
                       obtain ⟨k, rfl, HK⟩ := hrel
                       have HBz := hid (HBq.out.below hl HK.out.2)
                       by_cases hk3 : k < 3
                       · have hki3 : (k : Int) < 3 := by omega
                         have c16 : wz.cell? ⟨E.br, 16, none⟩ = some (.slice (some ⟨E.bb, 0, none⟩) 3 3) := HBz.out.pm.fix.r.cell (by omega)
                         have c10 : wz.cell? ⟨E.br, 10, none⟩ = some (.slice (some ⟨E.be, 0, none⟩) 3 3) := HBz.out.pm.fix.r.cell (by omega)
                         have c11 : wz.cell? ⟨E.br, 11, none⟩ = some (.slice (some ⟨E.bv, 0, none⟩) 3 3) := HBz.out.pm.fix.r.cell (by omega)
                         have c17 : wz.cell? ⟨E.br, 17, none⟩ = some (.slice (some ⟨E.brd, 0, none⟩) 3 3) := HBz.out.pm.fix.r.cell (by omega)
                         have c18 : wz.cell? ⟨E.br, 18, none⟩ = some (.slice (some ⟨E.bws, 0, none⟩) 3 3) := HBz.out.pm.fix.r.cell (by omega)
                         have x1 : wz.cell? ⟨E.bb, k, none⟩ = some (.int .i64 (s.began k)) := HBz.out.pm.fix.bg.cell hk3
                         have x2 : wz.cell? ⟨F.mb, k, none⟩ = some (.int .i64 (s.began k)) := HBz.out.mm.fix.bg.cell hk3
                         have x3 : wz.cell? ⟨E.be, k, none⟩ = some (.bool (s.ended k)) := HBz.out.pm.fix.en.cell hk3
                         have x4 : wz.cell? ⟨F.me, k, none⟩ = some (.bool (s.ended k)) := HBz.out.mm.fix.en.cell hk3
                         have x5 : wz.cell? ⟨E.bv, k, none⟩ = some (.bool (s.victim k)) := HBz.out.pm.fix.vi.cell hk3
                         have x6 : wz.cell? ⟨F.mv, k, none⟩ = some (.bool (s.victim k)) := HBz.out.mm.fix.vi.cell hk3
                         obtain ⟨a1, d1, a2, d2, a3, d3, a4, d4, y1, y2, y3, y4, r1, r2, r3, r4⟩ := both_row HBz.out rfl rfl hk3
                         have R1 := hid r1
                         have R2 := hid r2
                         have R3 := hid r3
                         have R4 := hid r4
                         have hlr := HI.out.rd k
                         have hlw := HI.out.ws k
                         clear r1 r2 r3 r4
                         have Q1 : ∀ n : Nat, Calls Yba.prog 8 #[.slice a1 (s.reads k).length d1, .slice a2 (s.reads k).length d2] (wz.drewN n) fun e w' => e = .returned (.bool true) ∧ ∃ m, w' = (wz.drewN n).drewN m := fun n => equal_run a1 a2 (s.reads k).length d1 d2 (fun j => (((s.reads k).getD j 0 : Nat) : Int)) _ (by omega) R1.out R2.out
                         have Q2 : ∀ n : Nat, Calls Yba.prog 8 #[.slice a3 (s.ws k).length d3, .slice a4 (s.ws k).length d4] (wz.drewN n) fun e w' => e = .returned (.bool true) ∧ ∃ m, w' = (wz.drewN n).drewN m := fun n => equal_run a3 a4 (s.ws k).length d3 d4 (fun j => (((s.ws k).getD j 0 : Nat) : Int)) _ (by omega) R3.out R4.out
                         replace Q1 := hid Q1
                         replace Q2 := hid Q2
                         generalize s.began k = bk at *
                         generalize s.ended k = ek at *
                         generalize s.victim k = vk at *
                         as_aux_lemma =>
                          go_wp2
                          go_quiet (fail)
                          go_wp2
                          go_quiet (first | (go_at_call_of 8 (Value.slice a1 (s.reads k).length d1); exact quiet2 (Q1.out _)) | (go_at_call_of 8 (Value.slice a3 (s.ws k).length d3); exact quiet2 (Q2.out _)))
                          go_wp2
                          go_roundw
                          case rel => exact ⟨k + 1, by go_num, by omega, by repeat (first | exact HK.out.2 | refine below_drewN ?_ _)⟩
                          case measure => simp [intOf]; omega
                       · have hki3 : ¬ (k : Int) < 3 := by omega
                         go_wp2
                         go_ret
                         exact ⟨rfl, by rw [HZ0.out]; exact HBEq.out.trans (HK.out.2.mono (bn_le hl HBq.out.pm))⟩
end Go.Proofs.Ybulkiec
