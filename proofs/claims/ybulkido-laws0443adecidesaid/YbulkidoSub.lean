/-
  (time.Time).Sub, and the law's clock.
-/
import Derived.Test.YbulkidoTime
import Derived.Deep.RegionWith
import Derived.Deep.RegionHeld3
namespace Go.Proofs.Ybulkido
open Go.ChangeShapes Go.WideShapes Go.ChangeAt Go.RowKit

theorem add_at (a d r : Int) (w : World) (h : a + d = r) (h1 : -100000000000 ≤ a) (h2 : a ≤ 100000000000) (h3 : -100000000000 ≤ d) (h4 : d ≤ 100000000000) :
    Calls Yba.prog 5 #[.agg #[.int .u64 (tw a), .int .i64 (tx a), .pointer none], .int .i64 d] w fun e w' =>
      e = .returned (.agg #[.int .u64 (tw r), .int .i64 (tx r), .pointer none]) ∧ Below w.heap.size w w' := by
  subst h
  exact add_T a d w h1 h2 h3 h4

theorem equal_same (a : Int) (w : World) :
    Calls Yba.prog 7 #[.agg #[.int .u64 (tw a), .int .i64 (tx a), .pointer none], .agg #[.int .u64 (tw a), .int .i64 (tx a), .pointer none]] w fun e w' =>
      e = .returned (.bool true) ∧ Below w.heap.size w w' :=
  (equal_T a a w).mono fun _ _ ⟨he, hb⟩ => ⟨by rw [he]; simp, hb⟩

theorem bel2 {w W w1 : World} (h : Below w.heap.size w W) (hb : Below W.heap.size W w1) : Below w.heap.size w w1 := h.trans (hb.mono h.size)

theorem bcell {W w1 : World} (hb : Below W.heap.size W w1) : (∀ b o, b < W.heap.size → w1.cell? ⟨b, o, none⟩ = W.cell? ⟨b, o, none⟩) ∧ (∀ b o, b < W.heap.size → w1.frozen? ⟨b, o, none⟩ = W.frozen? ⟨b, o, none⟩) :=
  ⟨fun b o h => hb.cell (p := ⟨b, o, none⟩) h, fun b o h => hb.frozen (p := ⟨b, o, none⟩) h⟩

set_option maxHeartbeats 1000000 in
/-- (time.Time).Sub. -/
theorem sub_T (a b : Int) (w : World) (h1 : -10000000000 ≤ a) (h2 : a ≤ 10000000000) (h3 : -10000000000 ≤ b) (h4 : b ≤ 10000000000) :
    Calls Yba.prog 14 #[.agg #[.int .u64 (tw a), .int .i64 (tx a), .pointer none], .agg #[.int .u64 (tw b), .int .i64 (tx b), .pointer none]] w fun e w' =>
      e = .returned (.int .i64 (a - b)) ∧ Below w.heap.size w w' := by
  have b1 := tw_bd a
  have b2 := tw_bd b
  have b3 := tx_bd a (by omega) (by omega)
  have b4 := tx_bd b (by omega) (by omega)
  have hb := b_and2 (tw a) (tw b) b1.1 b1.2 b2.1 b2.2
  have hd : (tx a - tx b) * 1000000000 + (tw a - tw b) = a - b := by unfold tx tw; omega
  go_enter Yba.func14, Yba.ntmps14
  go_wp2_with fail
  refine (sec_any _ _ (tw a) (tx a) _ (by omega) (by omega) (by go_simp) (by go_simp)).mono ?_
  rintro e w' ⟨rfl, rfl⟩
  go_wp2_with fail
  refine (sec_any _ _ (tw b) (tx b) _ (by omega) (by omega) (by go_simp) (by go_simp)).mono ?_
  rintro e w' ⟨rfl, rfl⟩
  go_wp2_with fail
  refine (nsec_any _ _ (tw a) _ (by omega) (by omega) (by go_simp)).mono ?_
  rintro e w' ⟨rfl, rfl⟩
  go_wp2_with fail
  refine (nsec_any _ _ (tw b) _ (by omega) (by omega) (by go_simp)).mono ?_
  rintro e w' ⟨rfl, rfl⟩
  go_wp2_with fail
  go_region_with (first | (go_at_call 5; refine (add_at b (a - b) a _ (by omega) (by omega) (by omega) (by omega) (by omega)).mono ?_; rintro e w1 ⟨rfl, hb1⟩; have hc1 := (bcell hb1).1) | (go_at_call 7; refine (equal_same a _).mono ?_; rintro e w2 ⟨rfl, hb2⟩))
  all_goals
    have HB : Hid (Below w.heap.size w w2) := bel2 (bel2 (((Below.refl w.heap.size w).alloc (Nat.le_refl _) _).alloc (by simp) _).drew hb1) hb2
    clear hb1 hb2
    go_wp2
    go_ret
    exact ⟨rfl, HB.out⟩
end Go.Proofs.Ybulkido
