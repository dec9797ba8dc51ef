import Derived.Test.YbulkidoStage
namespace Go.Proofs.Ybulkido
open Go.ChangeShapes Go.WideShapes Go.ChangeAt Go.RowKit Go.Maps

theorem turned_size {w w' : World} {b : Nat} (h : w.mapTurned w' b) : w'.heap.size = w.heap.size := by
  obtain ⟨es, clock, es', clock', _, rfl⟩ := h
  simp [ChangeMaps.setBlock]

set_option maxRecDepth 100000 in
set_option maxHeartbeats 1000000 in
theorem law_main (ao : Option Addr) (len cap : Nat) (rs : Nat → Bool) (f k n turn q c0 c1 : Int) (w : World) (hl : len ≤ 1024) (hsrc : SrcB w ao len rs) (hf0 : 0 ≤ f) (hf1 : f ≤ 255) (hk0 : 0 ≤ k) (hk1 : k ≤ 255) (hn0 : -128 ≤ n) (hn1 : n ≤ 127)
    (ht0 : -2147483648 ≤ turn) (ht1 : turn ≤ 2147483647) (hq0 : -2147483648 ≤ q) (hq1 : q ≤ 2147483647) (hc00 : -2147483648 ≤ c0) (hc01 : c0 ≤ 2147483647) (hc10 : -2147483648 ≤ c1) (hc11 : c1 ≤ 2147483647) :
    Calls Yba.prog 3 #[.slice ao len cap, .int .u8 f, .int .u8 k, .int .i8 n, .int .i32 turn, .int .i32 q, .int .i32 c0, .int .i32 c1] w fun e w' => e = .returned (.bool true) ∧ Below w.heap.size w w' := by
  have hgt : decide ((1024 : Int) < (len : Int)) = false := by simp; omega
  have hmm := mk_map
  have HSrc : Hid (SrcB w ao len rs) := hsrc
  clear hsrc
  obtain ⟨W2, hW2, hz2, hb2, hc0, hc1⟩ := two_boxes w c0 c1
  have HB2 : Hid (Below w.heap.size w W2) := hb2
  have HC0 : Hid (W2.cell? ⟨w.heap.size, 0, none⟩ = some (.int .i32 c0)) := hc0
  have HC1 : Hid (W2.cell? ⟨w.heap.size + 1, 0, none⟩ = some (.int .i32 c1)) := hc1
  clear hb2 hc0 hc1
  have HW2 : Hid ((w.alloc (Obj.cells #[Value.int IntKind.i32 c0] 21)).alloc (Obj.cells #[Value.int IntKind.i32 c1] 21) = W2) := hW2
  have HZ2 : Hid (W2.heap.size = w.heap.size + 1 + 1) := hz2
  clear hW2 hz2
  go_enter Yba.func3, Yba.ntmps3
  go_wp2_with fail
  rw [HW2.out, ← HZ2.out]
  clear HW2
  go_loopw [20, 48] (fun r i wr => ∃ k : Nat, k ≤ len ∧ i = .int .i64 k ∧ r = .int .i64 (runs k rs : Nat) ∧ Stat wr W2.heap.size k rs ∧ Hid (wr.heap.size = W2.heap.size + 1 + k) ∧ Hid (Below W2.heap.size W2 wr))
    (fun _ i _ => len - (intOf i).toNat)
  case atStart => exact ⟨0, by omega, rfl, rfl, stat_start W2 rs, (by show _ = _; simp), (Below.refl _ _).alloc (Nat.le_refl _) _⟩
  case round =>
    obtain ⟨j, hj, rfl, rfl, hst, HZ, HB⟩ := hrel
    have hrl := runs_le j rs
    by_cases hlt : j < len
    · obtain ⟨b, off, hao, hcs⟩ := srcB_at HSrc.out hlt (bel2 HB2.out HB.out)
      subst hao
      have hji : (j : Int) < (len : Int) := by omega
      obtain ⟨D, hown, hsize, hhas, hat, hcells⟩ := hst
      have HS1 : Hid (Maps.size D = j) := hsize
      have HS2 : Hid (∀ kl, Maps.has D kl = true → ∃ i : Nat, i < j ∧ kl = .int .i64 i) := hhas
      have HS3 : Hid (∀ i : Nat, i < j → ∀ z, D.atKey (.int .i64 i) z = .lit (.int .i64 ((W2.heap.size + 1 + i : Nat) : Int))) := hat
      have HS4 : Hid (∀ i, i < j → wr.cell? ⟨W2.heap.size + 1 + i, 6, none⟩ = some (.bool (rs i))) := hcells
      clear hsize hhas hat hcells
      have hkw : (Lit.int .i64 (j : Int)).wf = true := WalkArith.wf_i64 (by omega)
      have HR := runs_succ j rs
      go_wp2_with (first
        | (at_mapUpdate; refine wpList_mapUpdate_in _ rfl _ _ _ 24 rfl 3 25 law3 Yba.underlying24 ptrElem W2.heap.size j D rfl (hown.alloc _) (by unfold maxLen; omega) _ _ (.int .i64 j) rfl rfl (keyOf_int_mk Yba.underlying3 hkw) _ [] (ptrElem_at _) ?_))
      intro w1 hown1 ht1
      have hg1 := ht1.grown
      have hst1 := stat_step hown HS1.out HS2.out HS3.out HS4.out HZ.out (by go_simp) hown1 hg1
      have HZ1 : Hid (w1.heap.size = W2.heap.size + 1 + (j + 1)) := by
        have h1 := turned_size ht1
        have h2 := HZ.out
        show _ = _
        simp at h1
        omega
      have HB1 : Hid (Below W2.heap.size W2 w1) := (HB.out.alloc HB.out.size _).grown hg1 (by have := HB.out.size; simp; omega) (fun k e => by cases e; exact Nat.le_refl _)
      clear hown hown1 hg1 ht1 HS1 HS2 HS3 HS4 HZ HB
      cases hri : rs j
      · rw [hri] at HR hcs
        have HR1 : Hid (runs (j + 1) rs = runs j rs + 1) := HR
        clear HR hcs
        go_wp2
        go_roundw
        case rel => exact ⟨j + 1, by omega, by go_num, by rw [HR1.out]; go_num, hst1, HZ1, HB1⟩
        case measure => simp [intOf]; omega
      · rw [hri] at HR hcs
        have HR1 : Hid (runs (j + 1) rs = runs j rs) := HR
        clear HR hcs
        go_wp2
        go_roundw
        case rel => exact ⟨j + 1, by omega, by go_num, by rw [HR1.out], hst1, HZ1, HB1⟩
        case measure => simp [intOf]; omega
    · have hjl : j = len := by omega
      subst hjl
      clear HSrc hgt hmm hlt hj
      have hr0 : (0 : Int) ≤ ((runs j rs : Nat) : Int) := by omega
      have hr1 : ((runs j rs : Nat) : Int) ≤ (j : Int) := by omega
      obtain ⟨pv, cs, hb50, hb75, hcsz, hcs1, hcs2, hcs3, hcs4, hcs50, hcs51⟩ := node_val n f k turn (2 * f + k + 1) wr.heap.size w.heap.size (w.heap.size + 1)
      have HCS : Hid (cs.size = 136 ∧ cs[1]? = some (.int .i64 n) ∧ cs[2]? = some (.int .i64 f) ∧ cs[3]? = some (.int .i64 k) ∧ cs[4]? = some (.int .i64 turn) ∧ cs[50]? = some (clkOf wr.heap.size w.heap.size (w.heap.size + 1)) ∧ cs[51]? = some (.int .i64 (2 * f + k + 1))) := ⟨hcsz, hcs1, hcs2, hcs3, hcs4, hcs50, hcs51⟩
      clear hcsz hcs1 hcs2 hcs3 hcs4 hcs50 hcs51
      have HB50 : Hid (∀ w, (Instr.build 50 #[(1, .int .i64 n), (2, .int .i64 f), (3, .int .i64 k), (4, .int .i64 turn)]).run Yba.prog w = .ok pv w) := hb50
      have HB75 : Hid (∀ x, (Instr.build 75 #[(0, pv), (2, clkOf wr.heap.size w.heap.size (w.heap.size + 1)), (3, .int .i64 (2 * f + k + 1))]).run Yba.prog x = .ok (.agg cs) x) := hb75
      clear hb50 hb75
      go_wp2_with (first
        | (refine wpList_build _ rfl 50 _ rfl #[(1, .int .i64 n), (2, .int .i64 f), (3, .int .i64 k), (4, .int .i64 turn)] (by simp [Act.eval]) pv (HB50.out _) ?_)
        | (refine wpList_build _ rfl 75 _ rfl _ (by simp [Act.eval, clkOf]) (.agg cs) (HB75.out _) ?_))
      clear HB50 HB75
      refine (add_0 q _ (by omega) (by omega)).mono ?_
      rintro e w5 ⟨rfl, hb5⟩
      have HB5 : Hid (Below ((wr.alloc (Obj.cells #[Value.int IntKind.i64 0] 3)).alloc (Obj.cells cs 75)).heap.size ((wr.alloc (Obj.cells #[Value.int IntKind.i64 0] 3)).alloc (Obj.cells cs 75)) w5) := hb5
      clear hb5
      go_wp2_with fail
      obtain ⟨W7, hW7, hS⟩ := stage (q := q) HZ2.out HB2.out HC0.out HC1.out hst HZ.out HB.out HCS.out HB5.out
      rw [hW7]
      clear hW7 hst HZ HB HZ2 HB2 HC0 HC1 HCS HB5 hrl
      generalize w5.heap.size + 1 = rb at *
      generalize w5.heap.size = bq at *
      generalize wr.heap.size + 1 = nb at *
      generalize wr.heap.size = bc at *
      generalize W2.heap.size = B at *
      have HS : Hid (Staged w W7 nb rb bc w.heap.size (w.heap.size + 1) bq B j rs n f k turn (2 * f + k + 1) q c0 c1) := hS
      clear hS
      by_cases hA : (2 * f + k + 1) ≤ ((runs j rs : Nat) : Int)
      · refine (may_many nb rb bc w.heap.size (w.heap.size + 1) B j rs n f k turn (2 * f + k + 1) q 0 c0 c1 _ hl HS.out.stat HS.out.env hA).mono ?_
        rintro e w8 ⟨rfl, h8⟩
        have hA8 := HS.out.after (Took.of_below HS.out.env h8)
        clear h8 HS
        obtain ⟨W9, hW9, hF⟩ := hA8.fin
        have HF : Hid (Fin9 w W9 rb bc w8.heap.size 0 q) := hF
        have HW9 : Hid (w8.alloc (Obj.cells #[Value.int IntKind.u64 (tw q), Value.int IntKind.i64 (tx q), Value.pointer none] 35) = W9) := hW9
        clear hF hW9
        obtain ⟨k0, r8, r9, r10, q0, q1, q2, k1, k2, bel⟩ := hA8
        have lk1 := cell_lt k1
        clear k0 r8 r9 r10 bel
        generalize ((runs j rs : Nat) : Int) = R at *
        go_wp2_with fail
        rw [HW9.out]
        clear HW9 q0 q1 q2 k1 k2 lk1
        obtain ⟨k0, r8, r9, r10, t0, t1, t2, bel⟩ := HF.out
        have HB9 : Hid (Below w.heap.size w W9) := bel
        clear bel HF
        generalize w8.heap.size = bw at *
        go_region_held3 (fun w' => w'.cell? ⟨bc, 0, none⟩ = some (.int .i64 0) ∧ w'.cell? ⟨rb, 8, none⟩ = some (.int .u64 (tw q)) ∧ w'.cell? ⟨rb, 9, none⟩ = some (.int .i64 (tx q)) ∧ w'.cell? ⟨rb, 10, none⟩ = some (.pointer none) ∧ w'.cell? ⟨bw, 0, none⟩ = some (.int .u64 (tw q)) ∧ w'.cell? ⟨bw, 1, none⟩ = some (.int .i64 (tx q)) ∧ w'.cell? ⟨bw, 2, none⟩ = some (.pointer none)) (first | exact ⟨p1, p2, p3, p4, p5, p6, p7⟩ | go_keep)
          (first | (go_at_call 7; refine (equal_same q _).mono ?_; rintro e wz ⟨rfl, hbz⟩; have hcz := (bcell hbz).1; have p1 := (hcz _ _ (cell_lt k0)).trans k0; have p2 := (hcz _ _ (cell_lt r8)).trans r8; have p3 := (hcz _ _ (cell_lt r9)).trans r9; have p4 := (hcz _ _ (cell_lt r10)).trans r10; have p5 := (hcz _ _ (cell_lt t0)).trans t0; have p6 := (hcz _ _ (cell_lt t1)).trans t1; have p7 := (hcz _ _ (cell_lt t2)).trans t2; clear hcz))
        have HZ9 : Hid (Below w.heap.size w wz) := bel2 HB9.out.drew hbz
        clear hbz p1 p2 p3 p4 p5 p6 p7 k0 r8 r9 r10 t0 t1 t2 HB9
        go_wp2
        go_ret
        exact ⟨rfl, HZ9.out⟩
      have hA' : ((runs j rs : Nat) : Int) < 2 * f + k + 1 := by omega
      clear hA
      by_cases hB : (j : Int) < 2 * f + k + 1
      · refine (may_few nb rb bc w.heap.size (w.heap.size + 1) B j rs n f k turn (2 * f + k + 1) q 0 c0 c1 _ hl HS.out.stat HS.out.env hf0 hf1 hk0 hk1 hn0 hn1 hA' hB).mono ?_
        rintro e w8 ⟨rfl, h8⟩
        have hA8 := HS.out.after (Took.of_below HS.out.env h8)
        clear h8 HS
        obtain ⟨W9, hW9, hF⟩ := hA8.fin
        have HF : Hid (Fin9 w W9 rb bc w8.heap.size 0 q) := hF
        have HW9 : Hid (w8.alloc (Obj.cells #[Value.int IntKind.u64 (tw q), Value.int IntKind.i64 (tx q), Value.pointer none] 35) = W9) := hW9
        clear hF hW9
        obtain ⟨k0, r8, r9, r10, q0, q1, q2, k1, k2, bel⟩ := hA8
        have lk1 := cell_lt k1
        clear k0 r8 r9 r10 bel
        generalize ((runs j rs : Nat) : Int) = R at *
        go_wp2_with fail
        rw [HW9.out]
        clear HW9 q0 q1 q2 k1 k2 lk1
        obtain ⟨k0, r8, r9, r10, t0, t1, t2, bel⟩ := HF.out
        have HB9 : Hid (Below w.heap.size w W9) := bel
        clear bel HF
        generalize w8.heap.size = bw at *
        go_region_held3 (fun w' => w'.cell? ⟨bc, 0, none⟩ = some (.int .i64 0) ∧ w'.cell? ⟨rb, 8, none⟩ = some (.int .u64 (tw q)) ∧ w'.cell? ⟨rb, 9, none⟩ = some (.int .i64 (tx q)) ∧ w'.cell? ⟨rb, 10, none⟩ = some (.pointer none) ∧ w'.cell? ⟨bw, 0, none⟩ = some (.int .u64 (tw q)) ∧ w'.cell? ⟨bw, 1, none⟩ = some (.int .i64 (tx q)) ∧ w'.cell? ⟨bw, 2, none⟩ = some (.pointer none)) (first | exact ⟨p1, p2, p3, p4, p5, p6, p7⟩ | go_keep)
          (first | (go_at_call 7; refine (equal_same q _).mono ?_; rintro e wz ⟨rfl, hbz⟩; have hcz := (bcell hbz).1; have p1 := (hcz _ _ (cell_lt k0)).trans k0; have p2 := (hcz _ _ (cell_lt r8)).trans r8; have p3 := (hcz _ _ (cell_lt r9)).trans r9; have p4 := (hcz _ _ (cell_lt r10)).trans r10; have p5 := (hcz _ _ (cell_lt t0)).trans t0; have p6 := (hcz _ _ (cell_lt t1)).trans t1; have p7 := (hcz _ _ (cell_lt t2)).trans t2; clear hcz))
        have HZ9 : Hid (Below w.heap.size w wz) := bel2 HB9.out.drew hbz
        clear hbz p1 p2 p3 p4 p5 p6 p7 k0 r8 r9 r10 t0 t1 t2 HB9
        go_wp2
        go_ret
        exact ⟨rfl, HZ9.out⟩
      by_cases hC : (j : Int) - (runs j rs : Nat) < f + k
      · refine (may_few2 nb rb bc w.heap.size (w.heap.size + 1) B j rs n f k turn (2 * f + k + 1) q 0 c0 c1 _ hl HS.out.stat HS.out.env hf0 hf1 hk0 hk1 hn0 hn1 hA' hB hC).mono ?_
        rintro e w8 ⟨rfl, h8⟩
        have hA8 := HS.out.after (Took.of_below HS.out.env h8)
        clear h8 HS
        obtain ⟨W9, hW9, hF⟩ := hA8.fin
        have HF : Hid (Fin9 w W9 rb bc w8.heap.size 0 q) := hF
        have HW9 : Hid (w8.alloc (Obj.cells #[Value.int IntKind.u64 (tw q), Value.int IntKind.i64 (tx q), Value.pointer none] 35) = W9) := hW9
        clear hF hW9
        obtain ⟨k0, r8, r9, r10, q0, q1, q2, k1, k2, bel⟩ := hA8
        have lk1 := cell_lt k1
        clear k0 r8 r9 r10 bel
        generalize ((runs j rs : Nat) : Int) = R at *
        go_wp2_with fail
        rw [HW9.out]
        clear HW9 q0 q1 q2 k1 k2 lk1
        obtain ⟨k0, r8, r9, r10, t0, t1, t2, bel⟩ := HF.out
        have HB9 : Hid (Below w.heap.size w W9) := bel
        clear bel HF
        generalize w8.heap.size = bw at *
        go_region_held3 (fun w' => w'.cell? ⟨bc, 0, none⟩ = some (.int .i64 0) ∧ w'.cell? ⟨rb, 8, none⟩ = some (.int .u64 (tw q)) ∧ w'.cell? ⟨rb, 9, none⟩ = some (.int .i64 (tx q)) ∧ w'.cell? ⟨rb, 10, none⟩ = some (.pointer none) ∧ w'.cell? ⟨bw, 0, none⟩ = some (.int .u64 (tw q)) ∧ w'.cell? ⟨bw, 1, none⟩ = some (.int .i64 (tx q)) ∧ w'.cell? ⟨bw, 2, none⟩ = some (.pointer none)) (first | exact ⟨p1, p2, p3, p4, p5, p6, p7⟩ | go_keep)
          (first | (go_at_call 7; refine (equal_same q _).mono ?_; rintro e wz ⟨rfl, hbz⟩; have hcz := (bcell hbz).1; have p1 := (hcz _ _ (cell_lt k0)).trans k0; have p2 := (hcz _ _ (cell_lt r8)).trans r8; have p3 := (hcz _ _ (cell_lt r9)).trans r9; have p4 := (hcz _ _ (cell_lt r10)).trans r10; have p5 := (hcz _ _ (cell_lt t0)).trans t0; have p6 := (hcz _ _ (cell_lt t1)).trans t1; have p7 := (hcz _ _ (cell_lt t2)).trans t2; clear hcz))
        have HZ9 : Hid (Below w.heap.size w wz) := bel2 HB9.out.drew hbz
        clear hbz p1 p2 p3 p4 p5 p6 p7 k0 r8 r9 r10 t0 t1 t2 HB9
        go_wp2
        go_ret
        exact ⟨rfl, HZ9.out⟩
      by_cases hD : (0 : Int) < (runs j rs : Nat)
      · refine (may_one nb rb bc w.heap.size (w.heap.size + 1) B j rs n f k turn (2 * f + k + 1) q 0 c0 c1 _ hl HS.out.stat HS.out.env hf0 hf1 hk0 hk1 hn0 hn1 hA' hB hC hD).mono ?_
        rintro e w8 ⟨rfl, h8⟩
        have hA8 := HS.out.after (Took.of_below HS.out.env h8)
        clear h8 HS
        obtain ⟨W9, hW9, hF⟩ := hA8.fin
        have HF : Hid (Fin9 w W9 rb bc w8.heap.size 0 q) := hF
        have HW9 : Hid (w8.alloc (Obj.cells #[Value.int IntKind.u64 (tw q), Value.int IntKind.i64 (tx q), Value.pointer none] 35) = W9) := hW9
        clear hF hW9
        obtain ⟨k0, r8, r9, r10, q0, q1, q2, k1, k2, bel⟩ := hA8
        have lk1 := cell_lt k1
        clear k0 r8 r9 r10 bel
        generalize ((runs j rs : Nat) : Int) = R at *
        go_wp2_with fail
        rw [HW9.out]
        clear HW9 q0 q1 q2 k1 k2 lk1
        obtain ⟨k0, r8, r9, r10, t0, t1, t2, bel⟩ := HF.out
        have HB9 : Hid (Below w.heap.size w W9) := bel
        clear bel HF
        generalize w8.heap.size = bw at *
        go_region_held3 (fun w' => w'.cell? ⟨bc, 0, none⟩ = some (.int .i64 0) ∧ w'.cell? ⟨rb, 8, none⟩ = some (.int .u64 (tw q)) ∧ w'.cell? ⟨rb, 9, none⟩ = some (.int .i64 (tx q)) ∧ w'.cell? ⟨rb, 10, none⟩ = some (.pointer none) ∧ w'.cell? ⟨bw, 0, none⟩ = some (.int .u64 (tw q)) ∧ w'.cell? ⟨bw, 1, none⟩ = some (.int .i64 (tx q)) ∧ w'.cell? ⟨bw, 2, none⟩ = some (.pointer none)) (first | exact ⟨p1, p2, p3, p4, p5, p6, p7⟩ | go_keep)
          (first | (go_at_call 7; refine (equal_same q _).mono ?_; rintro e wz ⟨rfl, hbz⟩; have hcz := (bcell hbz).1; have p1 := (hcz _ _ (cell_lt k0)).trans k0; have p2 := (hcz _ _ (cell_lt r8)).trans r8; have p3 := (hcz _ _ (cell_lt r9)).trans r9; have p4 := (hcz _ _ (cell_lt r10)).trans r10; have p5 := (hcz _ _ (cell_lt t0)).trans t0; have p6 := (hcz _ _ (cell_lt t1)).trans t1; have p7 := (hcz _ _ (cell_lt t2)).trans t2; clear hcz))
        have HZ9 : Hid (Below w.heap.size w wz) := bel2 HB9.out.drew hbz
        clear hbz p1 p2 p3 p4 p5 p6 p7 k0 r8 r9 r10 t0 t1 t2 HB9
        go_wp2
        go_ret
        exact ⟨rfl, HZ9.out⟩
      by_cases hE : (j : Int) = n - 1
      · have hE' : ((j : Int) == n - 1) = true := beq_iff_eq.2 hE
        have dD : decide ((0 : Int) < (runs j rs : Nat)) = false := decide_eq_false hD
        clear hE
        refine (may_all nb rb bc w.heap.size (w.heap.size + 1) B j rs n f k turn (2 * f + k + 1) q 0 c0 c1 _ hl HS.out.stat HS.out.env hf0 hf1 hk0 hk1 hn0 hn1 hA' hB hC hD hE').mono ?_
        rintro e w8 ⟨rfl, h8⟩
        have hA8 := HS.out.after (Took.of_below HS.out.env h8)
        clear h8 HS
        obtain ⟨W9, hW9, hF⟩ := hA8.fin
        have HF : Hid (Fin9 w W9 rb bc w8.heap.size 0 q) := hF
        have HW9 : Hid (w8.alloc (Obj.cells #[Value.int IntKind.u64 (tw q), Value.int IntKind.i64 (tx q), Value.pointer none] 35) = W9) := hW9
        clear hF hW9
        obtain ⟨k0, r8, r9, r10, q0, q1, q2, k1, k2, bel⟩ := hA8
        have lk1 := cell_lt k1
        clear k0 r8 r9 r10 bel
        generalize ((runs j rs : Nat) : Int) = R at *
        go_wp2_with fail
        rw [HW9.out]
        clear HW9 q0 q1 q2 k1 k2 lk1
        obtain ⟨k0, r8, r9, r10, t0, t1, t2, bel⟩ := HF.out
        have HB9 : Hid (Below w.heap.size w W9) := bel
        clear bel HF
        generalize w8.heap.size = bw at *
        go_region_held3 (fun w' => w'.cell? ⟨bc, 0, none⟩ = some (.int .i64 0) ∧ w'.cell? ⟨rb, 8, none⟩ = some (.int .u64 (tw q)) ∧ w'.cell? ⟨rb, 9, none⟩ = some (.int .i64 (tx q)) ∧ w'.cell? ⟨rb, 10, none⟩ = some (.pointer none) ∧ w'.cell? ⟨bw, 0, none⟩ = some (.int .u64 (tw q)) ∧ w'.cell? ⟨bw, 1, none⟩ = some (.int .i64 (tx q)) ∧ w'.cell? ⟨bw, 2, none⟩ = some (.pointer none)) (first | exact ⟨p1, p2, p3, p4, p5, p6, p7⟩ | go_keep)
          (first | (go_at_call 7; refine (equal_same q _).mono ?_; rintro e wz ⟨rfl, hbz⟩; have hcz := (bcell hbz).1; have p1 := (hcz _ _ (cell_lt k0)).trans k0; have p2 := (hcz _ _ (cell_lt r8)).trans r8; have p3 := (hcz _ _ (cell_lt r9)).trans r9; have p4 := (hcz _ _ (cell_lt r10)).trans r10; have p5 := (hcz _ _ (cell_lt t0)).trans t0; have p6 := (hcz _ _ (cell_lt t1)).trans t1; have p7 := (hcz _ _ (cell_lt t2)).trans t2; clear hcz))
        have HZ9 : Hid (Below w.heap.size w wz) := bel2 HB9.out.drew hbz
        clear hbz p1 p2 p3 p4 p5 p6 p7 k0 r8 r9 r10 t0 t1 t2 HB9
        go_wp2
        go_ret
        exact ⟨rfl, HZ9.out⟩
      have hE' : ((j : Int) == n - 1) = false := beq_eq_false_iff_ne.2 hE
      have dD : decide ((0 : Int) < (runs j rs : Nat)) = false := decide_eq_false hD
      clear hE
      by_cases hQ : q = 0
      · have hQ' : (q == 0) = true := beq_iff_eq.2 hQ
        have HQ : Hid (q = 0) := hQ
        clear hQ
        refine (may_wait0 nb rb bc w.heap.size (w.heap.size + 1) B j rs n f k turn (2 * f + k + 1) q c0 c1 _ hl HS.out.stat HS.out.env hf0 hf1 hk0 hk1 hn0 hn1 ht0 ht1 hc00 hc01 hc10 hc11 HS.out.ne1 HS.out.ne2 HS.out.ne3 HS.out.ne4 HS.out.ne5 HS.out.ne6 hA' hB hC hD hE' hQ').mono ?_
        rintro e w8 ⟨rfl, h8⟩
        have hA8 := HS.out.after h8
        clear h8 HS
        have HA8 : Hid (After w w8 rb bc w.heap.size (w.heap.size + 1) bq q c0 c1 2 c0) := hA8
        obtain ⟨k0, r8, r9, r10, q0, q1, q2, k1, k2, bel⟩ := hA8
        have lk1 := cell_lt k1
        have lk2 := cell_lt k2
        clear k0 r8 r9 r10 bel
        generalize ((runs j rs : Nat) : Int) = R at *
        go_wp2_with fail
        refine (add_0 c0 _ (by omega) (by omega)).mono ?_
        rintro e w9 ⟨rfl, hb9⟩
        obtain ⟨W9, hW9, hF⟩ := HA8.out.fin2 hb9
        obtain ⟨q0', q1', q2', q3', q4', q5'⟩ := newest3 hb9
        obtain ⟨k1', k2'⟩ := HA8.out.boxes hb9
        have HF : Hid (Fin9 w W9 rb bc w8.heap.size 2 c0) := hF
        have HW9 : Hid (setW w9 w8.heap.size c0 = W9) := hW9
        clear hF hW9 hb9 HA8 q0 q1 q2 k1 k2
        go_wp2_with fail
        rw [show ((w9.setCell ⟨w8.heap.size, 0, none⟩ (.int .u64 (tw c0))).setCell ⟨w8.heap.size, 1, none⟩ (.int .i64 (tx c0))).setCell ⟨w8.heap.size, 2, none⟩ (.pointer none) = W9 from HW9.out]
        clear HW9 q0' q1' q2' q3' q4' q5' k1' k2' lk1 lk2
        obtain ⟨k0, r8, r9, r10, t0, t1, t2, bel⟩ := HF.out
        have HB9 : Hid (Below w.heap.size w W9) := bel
        clear bel HF
        generalize w8.heap.size = bw at *
        go_region_held3 (fun w' => w'.cell? ⟨bc, 0, none⟩ = some (.int .i64 2) ∧ w'.cell? ⟨rb, 8, none⟩ = some (.int .u64 (tw c0)) ∧ w'.cell? ⟨rb, 9, none⟩ = some (.int .i64 (tx c0)) ∧ w'.cell? ⟨rb, 10, none⟩ = some (.pointer none) ∧ w'.cell? ⟨bw, 0, none⟩ = some (.int .u64 (tw c0)) ∧ w'.cell? ⟨bw, 1, none⟩ = some (.int .i64 (tx c0)) ∧ w'.cell? ⟨bw, 2, none⟩ = some (.pointer none)) (first | exact ⟨p1, p2, p3, p4, p5, p6, p7⟩ | go_keep)
          (first | (go_at_call 7; refine (equal_same c0 _).mono ?_; rintro e wz ⟨rfl, hbz⟩; have hcz := (bcell hbz).1; have p1 := (hcz _ _ (cell_lt k0)).trans k0; have p2 := (hcz _ _ (cell_lt r8)).trans r8; have p3 := (hcz _ _ (cell_lt r9)).trans r9; have p4 := (hcz _ _ (cell_lt r10)).trans r10; have p5 := (hcz _ _ (cell_lt t0)).trans t0; have p6 := (hcz _ _ (cell_lt t1)).trans t1; have p7 := (hcz _ _ (cell_lt t2)).trans t2; clear hcz))
        have HZ9 : Hid (Below w.heap.size w wz) := bel2 HB9.out.drew hbz
        clear hbz p1 p2 p3 p4 p5 p6 p7 k0 r8 r9 r10 t0 t1 t2 HB9
        go_wp2
        go_ret
        exact ⟨rfl, HZ9.out⟩
      have hQ' : (q == 0) = false := beq_eq_false_iff_ne.2 hQ
      clear hQ
      refine (may_wait1 nb rb bc w.heap.size (w.heap.size + 1) B j rs n f k turn (2 * f + k + 1) q c0 c1 _ hl HS.out.stat HS.out.env hf0 hf1 hk0 hk1 hn0 hn1 ht0 ht1 hq0 hq1 hc00 hc01 HS.out.ne1 HS.out.ne2 HS.out.ne3 hA' hB hC hD hE' hQ').mono ?_
      rintro e w8 ⟨rfl, h8⟩
      have hA8 := HS.out.after (Took.of_clock HS.out.env HS.out.ne2 h8)
      clear h8 HS
      obtain ⟨W9, hW9, hF⟩ := hA8.fin
      have HF : Hid (Fin9 w W9 rb bc w8.heap.size 1 q) := hF
      have HW9 : Hid (w8.alloc (Obj.cells #[Value.int IntKind.u64 (tw q), Value.int IntKind.i64 (tx q), Value.pointer none] 35) = W9) := hW9
      clear hF hW9
      obtain ⟨k0, r8, r9, r10, q0, q1, q2, k1, k2, bel⟩ := hA8
      have lk1 := cell_lt k1
      clear k0 r8 r9 r10 bel
      generalize ((runs j rs : Nat) : Int) = R at *
      go_wp2_with fail
      rw [HW9.out]
      clear HW9 q0 q1 q2 k1 k2 lk1
      obtain ⟨k0, r8, r9, r10, t0, t1, t2, bel⟩ := HF.out
      have HB9 : Hid (Below w.heap.size w W9) := bel
      clear bel HF
      generalize w8.heap.size = bw at *
      go_region_held3 (fun w' => w'.cell? ⟨bc, 0, none⟩ = some (.int .i64 1) ∧ w'.cell? ⟨rb, 8, none⟩ = some (.int .u64 (tw q)) ∧ w'.cell? ⟨rb, 9, none⟩ = some (.int .i64 (tx q)) ∧ w'.cell? ⟨rb, 10, none⟩ = some (.pointer none) ∧ w'.cell? ⟨bw, 0, none⟩ = some (.int .u64 (tw q)) ∧ w'.cell? ⟨bw, 1, none⟩ = some (.int .i64 (tx q)) ∧ w'.cell? ⟨bw, 2, none⟩ = some (.pointer none)) (first | exact ⟨p1, p2, p3, p4, p5, p6, p7⟩ | go_keep)
        (first | (go_at_call 7; refine (equal_same q _).mono ?_; rintro e wz ⟨rfl, hbz⟩; have hcz := (bcell hbz).1; have p1 := (hcz _ _ (cell_lt k0)).trans k0; have p2 := (hcz _ _ (cell_lt r8)).trans r8; have p3 := (hcz _ _ (cell_lt r9)).trans r9; have p4 := (hcz _ _ (cell_lt r10)).trans r10; have p5 := (hcz _ _ (cell_lt t0)).trans t0; have p6 := (hcz _ _ (cell_lt t1)).trans t1; have p7 := (hcz _ _ (cell_lt t2)).trans t2; clear hcz))
      have HZ9 : Hid (Below w.heap.size w wz) := bel2 HB9.out.drew hbz
      clear hbz p1 p2 p3 p4 p5 p6 p7 k0 r8 r9 r10 t0 t1 t2 HB9
      go_wp2
      go_ret
      exact ⟨rfl, HZ9.out⟩
end Go.Proofs.Ybulkido
