/-
  (*Node).mayTakePart: no time is held yet: the clock is asked twice.
-/
import Derived.Test.YbulkidoMayB
namespace Go.Proofs.Ybulkido
open Go.ChangeShapes Go.WideShapes Go.ChangeAt Go.RowKit Go.Maps
set_option linter.unusedVariables false
attribute [local go_sem ↓] Go.wp_at_zero Go.wp_at_succ

set_option maxRecDepth 100000 in
set_option maxHeartbeats 4000000 in
theorem may_wait0 (nb rb bc b0 b1 B n : Nat) (rs : Nat → Bool) (N F K turn qq q c0 c1 : Int) (w : World) (hn : n ≤ 1024) (hst : Stat w B n rs) (he : Env w nb rb bc b0 b1 B n rs N F K turn qq q 0 c0 c1)
    (hF0 : 0 ≤ F) (hF1 : F ≤ 255) (hK0 : 0 ≤ K) (hK1 : K ≤ 255) (hN0 : -128 ≤ N) (hN1 : N ≤ 127) (ht0 : -2147483648 ≤ turn) (ht1 : turn ≤ 2147483647) (hc0 : -2147483648 ≤ c0) (hc1 : c0 ≤ 2147483647) (hd0 : -2147483648 ≤ c1) (hd1 : c1 ≤ 2147483647)
    (ne1 : nb ≠ bc) (ne2 : rb ≠ bc) (ne3 : b0 ≠ bc) (ne4 : b1 ≠ bc) (ne5 : nb ≠ rb) (ne6 : b1 ≠ rb)
    (hq : ((runs n rs : Nat) : Int) < qq) (h1 : ¬ (n : Int) < qq) (h2 : ¬ (n : Int) - (runs n rs : Nat) < F + K) (h3 : ¬ (0 : Int) < (runs n rs : Nat)) (h4 : ((n : Int) == N - 1) = false) (h5 : (q == 0) = true) :
    Calls Yba.prog 6 #[.pointer (some ⟨nb, 0, none⟩), .pointer (some ⟨rb, 0, none⟩)] w fun e w' => e = .returned (.bool (decide (4 * turn ≤ c1 - c0))) ∧ Took w w' bc rb 2 c0 := by
  have hrl : ((runs n rs : Nat) : Int) ≤ (n : Int) := by have := runs_le n rs; omega
  have hr0 : (0 : Int) ≤ ((runs n rs : Nat) : Int) := by omega
  have d1 : decide ((n : Int) < qq) = false := decide_eq_false h1
  have d3 : decide ((0 : Int) < (runs n rs : Nat)) = false := decide_eq_false h3
  go_enter Yba.func6, Yba.ntmps6
  go_wp2_with fail
  refine (running_any rb B n rs _ hn he.r0 hst).mono ?_
  rintro e w1 ⟨rfl, hb⟩
  have HB : Hid (Below w.heap.size w w1) := hb
  have hlen := stat_len hst hb
  have hlen0 := fun ty => stat_len hst hb ty 0
  simp only [World.drewN_zero] at hlen0
  have HE : Hid (Env w1 nb rb bc b0 b1 B n rs N F K turn qq q 0 c0 c1) := he.below hb
  obtain ⟨e1, e2, e3, e4, e50, e51, r0, r8, r9, r10, g8, g9, g10, k0, f0, k1, k2⟩ := he.below hb
  clear hb hst he e4 e50 g8 g9 g10 k0 f0 k1 k2
  generalize ((runs n rs : Nat) : Int) = R at *
  go_wp2
  go_quiet (fail)
  go_wp2
  go_quiet (fail)
  go_wp2_with fail
  refine (isZero_T q _).mono ?_
  rintro e w3 ⟨rfl, hb3⟩
  have HK3 : Hid (Kept (fun b => b = bc ∨ b = rb) w w3) := Kept.of_below (bel2 (below_drewN HB.out _) hb3)
  have HE3 := (HE.out.below (below_drewN (Below.refl _ _) _)).below hb3
  clear hb3 HB HE hlen hlen0 e1 e2 e3 e51 r0 r8 r9 r10
  have ln := cell_lt HE3.e1
  have lr := cell_lt HE3.r0
  have lc := cell_lt HE3.k0
  have l0 := cell_lt HE3.k1
  have l1 := cell_lt HE3.k2
  obtain ⟨e1, e2, e3, e4, e50, e51, r0, r8, r9, r10, g8, g9, g10, k0, f0, k1, k2⟩ := HE3
  clear e1 e2 e3 e51 r0
  rw [h5]
  have hw4 : IntKind.i64.wrap (4 * turn) = 4 * turn := IntWalk.i64_in _ (by omega)
  have HW4 : Hid (IntKind.i64.wrap (4 * turn) = 4 * turn) := hw4
  clear hw4
  go_wp2_with fail
  refine (clock0 bc b0 b1 c0 _ (by omega) (by omega) lc l0 ne3 k0 f0 k1).mono ?_
  rintro e w4 ⟨rfl, hb4⟩
  obtain ⟨hc4, hf4⟩ := clk_cell hb4
  -- the world behind the first call of the clock
  have a4 := (hc4 _ 4 ln ne1).trans e4
  have a50 := (hc4 _ 50 ln ne1).trans e50
  have a8 := (hc4 _ 8 lr ne2).trans r8
  have a9 := (hc4 _ 9 lr ne2).trans r9
  have a10 := (hc4 _ 10 lr ne2).trans r10
  have i8 := (hf4 _ 8 lr ne2).trans g8
  have i9 := (hf4 _ 9 lr ne2).trans g9
  have i10 := (hf4 _ 10 lr ne2).trans g10
  have m2 := (hc4 _ 0 l1 ne4).trans k2
  have m0 : w4.cell? ⟨bc, 0, none⟩ = some (.int .i64 1) := (hb4.cell (p := ⟨bc, 0, none⟩) lc).trans (World.cell?_setCell_same _ _ _ k0)
  have mf : w4.frozen? ⟨bc, 0, none⟩ = false := by rw [hb4.frozen (p := ⟨bc, 0, none⟩) lc, World.frozen?_setCell]; exact f0
  have HK4 : Hid (Kept (fun b => b = bc ∨ b = rb) w w4) := (HK3.out.trans (Kept.setCell (p := fun b => b = bc ∨ b = rb) (Or.inl rfl) _)).trans (Kept.of_below (by simpa using hb4))
  clear hb4 hc4 hf4 e4 e50 r8 r9 r10 g8 g9 g10 k0 f0 k1 k2 HK3 ln lr lc l0 l1
  go_wp2_with fail
  have hk5 : Kept (fun b => b = rb) w4 (setT w4 rb c0) := setT_kept (p := fun b => b = rb) rfl c0
  obtain ⟨u8, u9, u10⟩ := setT_cells (c := c0) a8 a9 a10
  have u4 := hk5.cell a4 ne5
  have u50 := hk5.cell a50 ne5
  have v0 := hk5.cell m0 (fun h => ne2 h.symm)
  have v2 := hk5.cell m2 ne6
  have vf := (hk5.frozen (o := 0) (cell_lt m0) (fun h => ne2 h.symm)).trans mf
  have HK5 : Hid (Kept (fun b => b = bc ∨ b = rb) w (setT w4 rb c0)) := HK4.out.trans (setT_kept (p := fun b => b = bc ∨ b = rb) (Or.inr rfl) c0)
  clear hk5 a4 a50 a8 a9 a10 i8 i9 i10 m2 m0 mf HK4
  obtain ⟨W5, hW5⟩ : ∃ W5, W5 = setT w4 rb c0 := ⟨_, rfl⟩
  rw [← hW5] at u8 u9 u10 u4 u50 v0 v2 vf HK5
  rw [show ((w4.setCell ⟨rb, 8, none⟩ (.int .u64 (tw c0))).setCell ⟨rb, 9, none⟩ (.int .i64 (tx c0))).setCell ⟨rb, 10, none⟩ (.pointer none) = W5 from hW5.symm]
  clear hW5
  have ln := cell_lt u4
  have lr := cell_lt u8
  have lc := cell_lt v0
  have l1 := cell_lt v2
  have hw4 := HW4.out
  go_region_held3 (fun w' => w'.cell? ⟨nb, 4, none⟩ = some (.int .i64 turn) ∧ w'.cell? ⟨nb, 50, none⟩ = some (.func (Fn.func 4) #[] #[.pointer (some ⟨bc, 0, none⟩), .pointer (some ⟨b0, 0, none⟩), .pointer (some ⟨b1, 0, none⟩)]) ∧ w'.cell? ⟨rb, 8, none⟩ = some (.int .u64 (tw c0)) ∧ w'.cell? ⟨rb, 9, none⟩ = some (.int .i64 (tx c0)) ∧ w'.cell? ⟨rb, 10, none⟩ = some (.pointer none)) (first | exact ⟨t1, t2, t3, t4, t5⟩ | exact ⟨s1, s2, s3, s4, s5⟩ | go_keep)
    (first
      | (go_at_call 4; refine (clock1 bc b0 b1 c1 _ (by omega) (by omega) (by exact lc) (by exact l1) ne4 (by exact v0) (by exact vf) (by exact v2)).mono ?_; rintro e w6 ⟨rfl, hb6⟩; have hc6 := (clk_cell hb6).1; have s1 := (hc6 _ 4 ln ne1).trans u4; have s2 := (hc6 _ 50 ln ne1).trans u50; have s3 := (hc6 _ 8 lr ne2).trans u8; have s4 := (hc6 _ 9 lr ne2).trans u9; have s5 := (hc6 _ 10 lr ne2).trans u10; clear hc6)
      | (go_at_call 14; refine (sub_T c1 c0 _ (by omega) (by omega) (by omega) (by omega)).mono ?_; rintro e w7 ⟨rfl, hb7⟩; have hc7 := (bcell hb7).1; have t1 := (hc7 _ 4 (cell_lt s1)).trans s1; have t2 := (hc7 _ 50 (cell_lt s2)).trans s2; have t3 := (hc7 _ 8 (cell_lt s3)).trans s3; have t4 := (hc7 _ 9 (cell_lt s4)).trans s4; have t5 := (hc7 _ 10 (cell_lt s5)).trans s5; clear hc7))
  have z0 : w7.cell? ⟨bc, 0, none⟩ = some (.int .i64 2) := by
    have h6 : w6.cell? ⟨bc, 0, none⟩ = some (.int .i64 2) := (hb6.cell (p := ⟨bc, 0, none⟩) lc).trans (World.cell?_setCell_same _ _ _ (by exact v0))
    exact ((bcell hb7).1 _ 0 (cell_lt h6)).trans h6
  have HK7 := ((HK5.out.drew.trans (Kept.setCell (p := fun b => b = bc ∨ b = rb) (Or.inl rfl) _)).trans (Kept.of_below (by simpa using hb6))).trans (Kept.of_below hb7)
  have HF : Hid (Took w w7 bc rb 2 c0) := ⟨HK7.os, HK7.tape, HK7.output, HK7.size, fun b hb n1 n2 => HK7.block b hb (fun h => h.elim n1 n2), z0, t3, t4, t5⟩
  clear HK7 z0 hb6 hb7 s1 s2 s3 s4 s5 t1 t2 t3 t4 t5 u4 u50 u8 u9 u10 v0 v2 vf HK5
  go_wp2
  go_ret
  exact ⟨rfl, HF.out⟩
end Go.Proofs.Ybulkido
