/-
  (*driver).emit, with the yield of LawS0444CPrefix.
-/
import Derived.Test.YbulkiecYield
namespace Go.Proofs.Ybulkiec
open Go.ChangeShapes Go.WideShapes Go.ChangeAt Go.RowKit
set_option linter.unusedVariables false
attribute [local go_sem ↓] Go.wp_at_zero Go.wp_at_succ

theorem LogSt.grow {w w1 : World} {base bl bk ba : Nat} {aa : Option Addr} {la capa : Nat} {xs : List Int} (h : LogSt w base bl bk ba aa la capa xs) (hb : Below w.heap.size w w1) : LogSt w1 base bl bk ba aa la capa xs := by
  obtain ⟨⟨v, hv, hown⟩, fl, hk, fk, ha, hsz, r1, r2, r3, r4, r5, r6⟩ := h
  obtain ⟨c, f⟩ := bcell hb
  exact ⟨⟨v, (c _ _ (cell_lt hv)).trans hv, hown.kept (row := none) ⟨hb.os, hb.tape, hb.output, hb.size, fun k hk _ => hb.block k hk⟩ (by cases v.ownBlock <;> simp)⟩, (f _ _ (cell_lt hv)).trans fl, (c _ _ (cell_lt hk)).trans hk, (f _ _ (cell_lt hk)).trans fk, (c _ _ (cell_lt ha)).trans ha, Nat.le_trans hsz hb.size, r1, r2, r3, r4, r5, r6⟩

/-- A store into another block below the rows. -/
theorem LogSt.other {w : World} {base bl bk ba bd o : Nat} {aa : Option Addr} {la capa : Nat} {xs : List Int} (h : LogSt w base bl bk ba aa la capa xs) (hdb : bd < base) (n1 : bd ≠ bl) (n2 : bd ≠ bk) (n3 : bd ≠ ba) (u : Value) :
    LogSt (w.setCell ⟨bd, o, none⟩ u) base bl bk ba aa la capa xs := by
  obtain ⟨⟨v, hv, hown⟩, fl, hk, fk, ha, hsz, r1, r2, r3, r4, r5, r6⟩ := h
  refine ⟨⟨v, ?_, ownsRow_setCell_below hown (a := ⟨bd, o, none⟩) hdb u⟩, ?_, ?_, ?_, ?_, by simpa using hsz, r1, r2, r3, r4, r5, r6⟩
  · rw [World.cell?_setCell_other _ _ _ _ (by simp)]; exact hv
  · rw [World.frozen?_setCell]; exact fl
  · rw [World.cell?_setCell_other _ _ _ _ (by simp)]; exact hk
  · rw [World.frozen?_setCell]; exact fk
  · rw [World.cell?_setCell_other _ _ _ _ (by simp)]; exact ha

/-- The driver's two fields that emit looks at. -/
structure DrvSt (w : World) (bd bl bk ba : Nat) (stopped : Bool) : Prop where
  c8 : w.cell? ⟨bd, 8, none⟩ = some (.func (Fn.func 9) #[] #[.pointer (some ⟨bl, 0, none⟩), .pointer (some ⟨bk, 0, none⟩), .pointer (some ⟨ba, 0, none⟩)])
  c9 : w.cell? ⟨bd, 9, none⟩ = some (.bool stopped)
  f9 : w.frozen? ⟨bd, 9, none⟩ = false

theorem DrvSt.grow {w w1 : World} {bd bl bk ba : Nat} {st : Bool} (h : DrvSt w bd bl bk ba st) (hb : Below w.heap.size w w1) : DrvSt w1 bd bl bk ba st := by
  obtain ⟨c, f⟩ := bcell hb
  exact ⟨(c _ _ (cell_lt h.c8)).trans h.c8, (c _ _ (cell_lt h.c9)).trans h.c9, (f _ _ (cell_lt h.c9)).trans h.f9⟩

/-- The driver has stopped: nothing happens. -/
theorem emit_stop (bd bl bk ba : Nat) (e0 e1 e2 e3 e4 e5 e6 e7 e8 e9 e10 e11 : Value) (w : World) (hd : DrvSt w bd bl bk ba true) :
    Calls Yba.prog 10 #[.pointer (some ⟨bd, 0, none⟩), .agg #[e0, e1, e2, e3, e4, e5, e6, e7, e8, e9, e10, e11]] w fun e w' => e = .returned (.tuple #[]) ∧ Below w.heap.size w w' := by
  obtain ⟨c8, c9, f9⟩ := hd
  have l := cell_lt c8
  go_enter Yba.func10, Yba.ntmps10
  go_wp2
  go_end0
  exact ⟨rfl, (Below.refl _ _).alloc (Nat.le_refl _) _⟩

set_option maxRecDepth 100000 in
set_option maxHeartbeats 4000000 in
theorem emit_go (bd base bl bk ba : Nat) (aa : Option Addr) (la capa : Nat) (B : Nat → Bool) (xs : List Int) (s : Int) (e0 e1 e3 e4 e5 e6 e7 e8 e9 e10 e11 : Value) (w : World) (hst : LogSt w base bl bk ba aa la capa xs) (hd : DrvSt w bd bl bk ba false)
    (hdb : bd < base) (ndl : bd ≠ bl) (ndk : bd ≠ bk) (nda : bd ≠ ba)
    (hx : xs.length ≤ 1024) (hla : la ≤ maxLen) (hsrc : xs.length < la → ∃ b off, aa = some ⟨b, off, none⟩ ∧ b < base ∧ b ≠ bl ∧ b ≠ bk ∧ w.cell? ⟨b, off + xs.length, none⟩ = some (.bool (B xs.length))) :
    Calls Yba.prog 10 #[.pointer (some ⟨bd, 0, none⟩), .agg #[e0, e1, .int .i64 s, e3, e4, e5, e6, e7, e8, e9, e10, e11]] w fun e w' => e = .returned (.tuple #[]) ∧
      LogSt w' base bl bk ba aa la capa (xs ++ [s]) ∧ DrvSt w' bd bl bk ba (!ans la B xs.length) ∧ Kept (fun b => b = bd ∨ b = bl ∨ b = bk ∨ base ≤ b) w w' := by
  have hbel : ∀ o, Below w.heap.size w (w.alloc o) := fun o => (Below.refl _ _).alloc (Nat.le_refl _) _
  obtain ⟨W, hW⟩ : ∃ W, W = w.alloc (Obj.cells #[e0, e1, .int .i64 s, e3, e4, e5, e6, e7, e8, e9, e10, e11] 60) := ⟨_, rfl⟩
  have HL : Hid (LogSt W base bl bk ba aa la capa xs) := by rw [hW]; exact hst.grow (hbel _)
  have HD : Hid (DrvSt W bd bl bk ba false) := by rw [hW]; exact hd.grow (hbel _)
  have HK : Hid (Kept (fun b => b = bd ∨ b = bl ∨ b = bk ∨ base ≤ b) w W) := by rw [hW]; exact (Kept.refl _ _).alloc _
  have HS : Hid (xs.length < la → ∃ b off, aa = some ⟨b, off, none⟩ ∧ b < base ∧ b ≠ bl ∧ b ≠ bk ∧ W.cell? ⟨b, off + xs.length, none⟩ = some (.bool (B xs.length))) := by
    intro h
    obtain ⟨b, off, h1, h2, h3, h4, h5⟩ := hsrc h
    exact ⟨b, off, h1, h2, h3, h4, by rw [hW]; exact ((hbel _).cell (p := ⟨b, off + xs.length, none⟩) (cell_lt h5)).trans h5⟩
  have HP : Hid (W.cell? ⟨w.heap.size, 0, none⟩ = some e0 ∧ W.cell? ⟨w.heap.size, 1, none⟩ = some e1 ∧ W.cell? ⟨w.heap.size, 2, none⟩ = some (.int .i64 s) ∧ W.cell? ⟨w.heap.size, 3, none⟩ = some e3 ∧ W.cell? ⟨w.heap.size, 4, none⟩ = some e4 ∧ W.cell? ⟨w.heap.size, 5, none⟩ = some e5 ∧
      W.cell? ⟨w.heap.size, 6, none⟩ = some e6 ∧ W.cell? ⟨w.heap.size, 7, none⟩ = some e7 ∧ W.cell? ⟨w.heap.size, 8, none⟩ = some e8 ∧ W.cell? ⟨w.heap.size, 9, none⟩ = some e9 ∧ W.cell? ⟨w.heap.size, 10, none⟩ = some e10 ∧ W.cell? ⟨w.heap.size, 11, none⟩ = some e11) := by
    rw [hW]
    refine ⟨?_, ?_, ?_, ?_, ?_, ?_, ?_, ?_, ?_, ?_, ?_, ?_⟩ <;> go_simp
  have hsz := hst.size
  have HR : Hid (∀ b, rowOf W bl b → base ≤ b ∧ b < w.heap.size) := by
    intro b ⟨v, h1, h2⟩
    obtain ⟨v', h3, h4⟩ := hst.own
    rw [hW, (hbel _).cell (p := ⟨bl, 0, none⟩) (cell_lt h3), h3] at h1
    cases h1
    exact h4.lt b h2
  have HW : Hid (w.alloc (Obj.cells #[e0, e1, .int .i64 s, e3, e4, e5, e6, e7, e8, e9, e10, e11] 60) = W) := hW.symm
  obtain ⟨c8, c9, f9⟩ := hd
  have ld := cell_lt c8
  have lb := hst.lb
  have kb := hst.kb
  clear hst hsrc hW hbel
  go_enter Yba.func10, Yba.ntmps10
  go_wp2_with fail
  rw [HW.out]
  clear HW c8 c9 f9
  generalize w.heap.size = bx at *
  obtain ⟨c8, c9, f9⟩ := HD.out
  obtain ⟨p0, p1, p2, p3, p4, p5, p6, p7, p8, p9, p10, p11⟩ := HP.out
  clear HP HD
  go_region_held3 (fun w' => w'.cell? ⟨bd, 8, none⟩ = some (.func (Fn.func 9) #[] #[.pointer (some ⟨bl, 0, none⟩), .pointer (some ⟨bk, 0, none⟩), .pointer (some ⟨ba, 0, none⟩)]) ∧ w'.cell? ⟨bx, 0, none⟩ = some e0 ∧ w'.cell? ⟨bx, 1, none⟩ = some e1 ∧ w'.cell? ⟨bx, 2, none⟩ = some (.int .i64 s) ∧ w'.cell? ⟨bx, 3, none⟩ = some e3 ∧ w'.cell? ⟨bx, 4, none⟩ = some e4 ∧ w'.cell? ⟨bx, 5, none⟩ = some e5 ∧
      w'.cell? ⟨bx, 6, none⟩ = some e6 ∧ w'.cell? ⟨bx, 7, none⟩ = some e7 ∧ w'.cell? ⟨bx, 8, none⟩ = some e8 ∧ w'.cell? ⟨bx, 9, none⟩ = some e9 ∧ w'.cell? ⟨bx, 10, none⟩ = some e10 ∧ w'.cell? ⟨bx, 11, none⟩ = some e11) (first | exact ⟨s8, s0, s1, s2, s3, s4, s5, s6, s7, t8, s9, s10, s11⟩ | go_keep | (refine ⟨?_, ?_, ?_, ?_, ?_, ?_, ?_, ?_, ?_, ?_, ?_, ?_, ?_⟩ <;> (rw [World.cell?_setCell_other _ _ _ _ (by first | (simp; done) | (simp; omega))]; assumption)))
    (first | (go_at_call 9; refine (yield_any base bl bk ba aa la capa B xs s e0 e1 e3 e4 e5 e6 e7 e8 e9 e10 e11 _ (by exact HL.out.grow (Below.refl _ _).drew) hx hla (by exact HS.out)).mono ?_; rintro e w2 ⟨rfl, hl2, hk2⟩; have hnd : ¬ (bd = bl ∨ bd = bk ∨ rowOf W bl bd) := (fun h => by rcases h with h | h | h; exact ndl h; exact ndk h; have := (HR.out _ h).1; omega); have hnx : ¬ (bx = bl ∨ bx = bk ∨ rowOf W bl bx) := (fun h => by rcases h with h | h | h; omega; omega; have := (HR.out _ h).2; omega); have s8 := hk2.cell (by exact c8) hnd; have s0 := hk2.cell (by exact p0) hnx; have s1 := hk2.cell (by exact p1) hnx; have s2 := hk2.cell (by exact p2) hnx; have s3 := hk2.cell (by exact p3) hnx; have s4 := hk2.cell (by exact p4) hnx; have s5 := hk2.cell (by exact p5) hnx; have s6 := hk2.cell (by exact p6) hnx; have s7 := hk2.cell (by exact p7) hnx; have t8 := hk2.cell (by exact p8) hnx; have s9 := hk2.cell (by exact p9) hnx; have s10 := hk2.cell (by exact p10) hnx; have s11 := hk2.cell (by exact p11) hnx; have q9 := hk2.cell (by exact c9) hnd; have g9 := (hk2.frozen (o := 9) (by exact cell_lt c9) hnd).trans f9))
  have HF : Hid (LogSt (w2.setCell ⟨bd, 9, none⟩ (.bool (!ans la B xs.length))) base bl bk ba aa la capa (xs ++ [s]) ∧ DrvSt (w2.setCell ⟨bd, 9, none⟩ (.bool (!ans la B xs.length))) bd bl bk ba (!ans la B xs.length) ∧ Kept (fun b => b = bd ∨ b = bl ∨ b = bk ∨ base ≤ b) w (w2.setCell ⟨bd, 9, none⟩ (.bool (!ans la B xs.length)))) := by
    refine ⟨hl2.other hdb ndl ndk nda _, ⟨?_, ?_, ?_⟩, ?_⟩
    · rw [World.cell?_setCell_other _ _ _ _ (by simp)]
      exact s8
    · exact World.cell?_setCell_same _ _ _ q9
    · rw [World.frozen?_setCell]
      exact g9
    · exact (HK.out.drew.trans (hk2.mono (fun b h => by rcases h with h | h | h; exact Or.inr (Or.inl h); exact Or.inr (Or.inr (Or.inl h)); exact Or.inr (Or.inr (Or.inr (HR.out b h).1))))).trans (Kept.setCell (p := fun b => b = bd ∨ b = bl ∨ b = bk ∨ base ≤ b) (Or.inl rfl) _)
  clear hl2 hk2 s8 s0 s1 s2 s3 s4 s5 s6 s7 t8 s9 s10 s11 q9 g9 p0 p1 p2 p3 p4 p5 p6 p7 p8 p9 p10 p11 c8 c9 f9
  go_wp2
  go_end0
  exact ⟨rfl, HF.out⟩
end Go.Proofs.Ybulkiec
