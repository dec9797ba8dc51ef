/-
  The law's clock: the closure LawS0443ADecide$1.
-/
import Derived.Test.YbulkidoSub
namespace Go.Proofs.Ybulkido
open Go.ChangeShapes Go.WideShapes Go.ChangeAt Go.RowKit

/-- Behind a callee that has left all old blocks as they were, the caller's newest block of three cells is there still. -/
theorem newest3 {w w1 : World} {x y z : Value} {t : TypeId} (hb : Below (w.alloc (.cells #[x, y, z] t)).heap.size (w.alloc (.cells #[x, y, z] t)) w1) :
    w1.cell? ⟨w.heap.size, 0, none⟩ = some x ∧ w1.cell? ⟨w.heap.size, 1, none⟩ = some y ∧ w1.cell? ⟨w.heap.size, 2, none⟩ = some z ∧
    w1.frozen? ⟨w.heap.size, 0, none⟩ = false ∧ w1.frozen? ⟨w.heap.size, 1, none⟩ = false ∧ w1.frozen? ⟨w.heap.size, 2, none⟩ = false := by
  obtain ⟨c, f⟩ := bcell hb
  refine ⟨?_, ?_, ?_, ?_, ?_, ?_⟩
  · rw [c _ _ (by simp)]; simp
  · rw [c _ _ (by simp)]; simp
  · rw [c _ _ (by simp)]; simp
  · rw [f _ _ (by simp)]; simp
  · rw [f _ _ (by simp)]; simp
  · rw [f _ _ (by simp)]; simp

set_option maxHeartbeats 1000000 in
/-- The first call hands out c0. -/
theorem clock0 (bc b0 b1 : Nat) (c0 : Int) (w : World) (h1 : -3000000000 ≤ c0) (h2 : c0 ≤ 3000000000) (l0 : bc < w.heap.size) (l1 : b0 < w.heap.size) (hne : b0 ≠ bc)
    (k0 : w.cell? ⟨bc, 0, none⟩ = some (.int .i64 0)) (f0 : w.frozen? ⟨bc, 0, none⟩ = false) (k1 : w.cell? ⟨b0, 0, none⟩ = some (.int .i32 c0)) :
    Calls Yba.prog 4 #[.pointer (some ⟨bc, 0, none⟩), .pointer (some ⟨b0, 0, none⟩), .pointer (some ⟨b1, 0, none⟩)] w fun e w' =>
      e = .returned (.agg #[.int .u64 (tw c0), .int .i64 (tx c0), .pointer none]) ∧ Below w.heap.size (w.setCell ⟨bc, 0, none⟩ (.int .i64 1)) w' := by
  go_enter Yba.func4, Yba.ntmps4
  go_wp2_with fail
  refine (add_0 c0 _ (by omega) (by omega)).mono ?_
  rintro e w1 ⟨rfl, hb⟩
  have hn := newest3 hb
  simp only [World.size_setCell] at hn
  obtain ⟨q0, q1, q2, q3, q4, q5⟩ := hn
  have HB : Hid (Below w.heap.size (w.setCell ⟨bc, 0, none⟩ (.int .i64 1)) w1) := ((Below.refl _ _).alloc (by simp) _).trans (hb.mono (by simp))
  clear hb
  go_wp2
  exact bodyPost_ret (v := .agg #[.int .u64 (tw c0), .int .i64 (tx c0), .pointer none]) (by simp [results, Yba.results4, go_sem, q0, q1, q2]) rfl ⟨rfl, ((HB.out.setCell (Nat.le_refl _) _).setCell (Nat.le_refl _) _).setCell (Nat.le_refl _) _⟩

set_option maxHeartbeats 1000000 in
/-- The second call hands out c1. -/
theorem clock1 (bc b0 b1 : Nat) (c1 : Int) (w : World) (h1 : -3000000000 ≤ c1) (h2 : c1 ≤ 3000000000) (l0 : bc < w.heap.size) (l1 : b1 < w.heap.size) (hne : b1 ≠ bc)
    (k0 : w.cell? ⟨bc, 0, none⟩ = some (.int .i64 1)) (f0 : w.frozen? ⟨bc, 0, none⟩ = false) (k1 : w.cell? ⟨b1, 0, none⟩ = some (.int .i32 c1)) :
    Calls Yba.prog 4 #[.pointer (some ⟨bc, 0, none⟩), .pointer (some ⟨b0, 0, none⟩), .pointer (some ⟨b1, 0, none⟩)] w fun e w' =>
      e = .returned (.agg #[.int .u64 (tw c1), .int .i64 (tx c1), .pointer none]) ∧ Below w.heap.size (w.setCell ⟨bc, 0, none⟩ (.int .i64 2)) w' := by
  go_enter Yba.func4, Yba.ntmps4
  go_wp2_with fail
  refine (add_0 c1 _ (by omega) (by omega)).mono ?_
  rintro e w1 ⟨rfl, hb⟩
  have hn := newest3 hb
  simp only [World.size_setCell] at hn
  obtain ⟨q0, q1, q2, q3, q4, q5⟩ := hn
  have HB : Hid (Below w.heap.size (w.setCell ⟨bc, 0, none⟩ (.int .i64 2)) w1) := ((Below.refl _ _).alloc (by simp) _).trans (hb.mono (by simp))
  clear hb
  go_wp2
  exact bodyPost_ret (v := .agg #[.int .u64 (tw c1), .int .i64 (tx c1), .pointer none]) (by simp [results, Yba.results4, go_sem, q0, q1, q2]) rfl ⟨rfl, ((HB.out.setCell (Nat.le_refl _) _).setCell (Nat.le_refl _) _).setCell (Nat.le_refl _) _⟩
end Go.Proofs.Ybulkido
