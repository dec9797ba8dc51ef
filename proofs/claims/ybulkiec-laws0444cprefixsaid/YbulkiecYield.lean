/-
  The law's 'yield': the closure LawS0444CPrefix$1.
-/
import Derived.Test.YbulkiecBase
namespace Go.Proofs.Ybulkiec
open Go.ChangeShapes Go.WideShapes Go.ChangeAt Go.RowKit
set_option linter.unusedVariables false

/-- The answers: the k-th, and true where there is none. -/
def ans (la : Nat) (B : Nat → Bool) (k : Nat) : Bool := if k < la then B k else true

/-- A slice of bools that came in. -/
def SrcB (w : World) (a : Option Addr) (len : Nat) (rs : Nat → Bool) : Prop :=
  len = 0 ∨ ∃ b off, a = some ⟨b, off, none⟩ ∧ b < w.heap.size ∧ ∀ i, i < len → w.cell? ⟨b, off + i, none⟩ = some (.bool (rs i))

/-- What the closure's variables hold when 'xs' has been logged. -/
structure LogSt (w : World) (base bl bk ba : Nat) (aa : Option Addr) (la capa : Nat) (xs : List Int) : Prop where
  own : ∃ v, w.cell? ⟨bl, 0, none⟩ = some v ∧ w.ownsRow base 3 1 v xs.length (xs.map (Value.int .i64))
  fl : w.frozen? ⟨bl, 0, none⟩ = false
  k : w.cell? ⟨bk, 0, none⟩ = some (.int .i64 xs.length)
  fk : w.frozen? ⟨bk, 0, none⟩ = false
  a : w.cell? ⟨ba, 0, none⟩ = some (.slice aa la capa)
  size : base ≤ w.heap.size
  lb : bl < base
  kb : bk < base
  ab : ba < base
  lk : bl ≠ bk
  la' : bl ≠ ba
  ka : bk ≠ ba

theorem one_new (w : World) (o : Obj) (v : Value) : ∀ (j : Nat) (u : Value), [v][j]? = some u → ((w.alloc o).alloc (Obj.cells #[v] 3)).cell? ((⟨w.heap.size + 1, 0, none⟩ : Addr).add j) = some u := by
  have h := World.news_of_block (w := (w.alloc o).alloc (Obj.cells #[v] 3)) (B := (w.alloc o).heap.size) (cs := #[v]) (t := 3) (fr := (0, 0)) (heap_alloc_new _ _)
  rw [World.size_alloc] at h
  exact h

/-- Block b is the row of the slice that the variable in block bl holds. -/
def rowOf (w : World) (bl b : Nat) : Prop := ∃ v, w.cell? ⟨bl, 0, none⟩ = some v ∧ v.ownBlock = some b

/-- The closure's three stores. -/
theorem log_step {w w1 : World} {base bl bk ba g cap : Nat} {aa : Option Addr} {la capa : Nat} {xs : List Int} {s : Int} {v : Value}
    (hown : w1.ownsRow base 3 1 (Value.slice (some ⟨g, 0, none⟩) (xs.length + 1) cap) (xs.length + 1) (xs.map (Value.int .i64) ++ [.int .i64 s])) (hk1 : Kept (rowOf w bl) w w1)
    (c1 : w1.cell? ⟨bl, 0, none⟩ = some v) (c2 : w1.cell? ⟨bk, 0, none⟩ = some (.int .i64 xs.length)) (c3 : w1.cell? ⟨ba, 0, none⟩ = some (.slice aa la capa)) (f1 : w1.frozen? ⟨bl, 0, none⟩ = false) (f2 : w1.frozen? ⟨bk, 0, none⟩ = false)
    (hsz : base ≤ w.heap.size) (lb : bl < base) (kb : bk < base) (ab : ba < base) (lk : bl ≠ bk) (la' : bl ≠ ba) (ka : bk ≠ ba) :
    LogSt ((w1.setCell ⟨bl, 0, none⟩ (.slice (some ⟨g, 0, none⟩) (xs.length + 1) cap)).setCell ⟨bk, 0, none⟩ (.int .i64 ((xs.length : Int) + 1))) base bl bk ba aa la capa (xs ++ [s]) ∧
    Kept (fun b => b = bl ∨ b = bk ∨ rowOf w bl b) w ((w1.setCell ⟨bl, 0, none⟩ (.slice (some ⟨g, 0, none⟩) (xs.length + 1) cap)).setCell ⟨bk, 0, none⟩ (.int .i64 ((xs.length : Int) + 1))) := by
  refine ⟨⟨⟨.slice (some ⟨g, 0, none⟩) (xs.length + 1) cap, ?_, ?_⟩, ?_, ?_, ?_, ?_, ?_, lb, kb, ab, lk, la', ka⟩, ?_⟩
  · rw [World.cell?_setCell_other _ _ _ _ (by simp)]
    exact World.cell?_setCell_same _ _ _ c1
  · have h := ownsRow_setCell_below (ownsRow_setCell_below hown (a := ⟨bl, 0, none⟩) lb (.slice (some ⟨g, 0, none⟩) (xs.length + 1) cap)) (a := ⟨bk, 0, none⟩) kb (.int .i64 ((xs.length : Int) + 1))
    simpa using h
  · rw [World.frozen?_setCell, World.frozen?_setCell]
    exact f1
  · rw [World.cell?_setCell_same (u := .int .i64 xs.length) _ _ _ (by rw [World.cell?_setCell_other _ _ _ _ (by simp)]; exact c2)]
    simp
  · rw [World.frozen?_setCell, World.frozen?_setCell]
    exact f2
  · rw [World.cell?_setCell_other _ _ _ _ (by simp), World.cell?_setCell_other _ _ _ _ (by simp)]
    exact c3
  · have := hk1.size
    simp
    omega
  · exact ((hk1.mono (fun b h => Or.inr (Or.inr h))).trans (Kept.setCell (p := fun b => b = bl ∨ b = bk ∨ rowOf w bl b) (Or.inl rfl) _)).trans (Kept.setCell (p := fun b => b = bl ∨ b = bk ∨ rowOf w bl b) (Or.inr (Or.inl rfl)) _)

set_option maxRecDepth 100000 in
set_option maxHeartbeats 1000000 in
theorem yield_any (base bl bk ba : Nat) (aa : Option Addr) (la capa : Nat) (B : Nat → Bool) (xs : List Int) (s : Int) (e0 e1 e3 e4 e5 e6 e7 e8 e9 e10 e11 : Value) (w : World) (hst : LogSt w base bl bk ba aa la capa xs)
    (hx : xs.length ≤ 1024) (hla : la ≤ maxLen) (hsrc : xs.length < la → ∃ b off, aa = some ⟨b, off, none⟩ ∧ b < base ∧ b ≠ bl ∧ b ≠ bk ∧ w.cell? ⟨b, off + xs.length, none⟩ = some (.bool (B xs.length))) :
    Calls Yba.prog 9 #[.agg #[e0, e1, .int .i64 s, e3, e4, e5, e6, e7, e8, e9, e10, e11], .pointer (some ⟨bl, 0, none⟩), .pointer (some ⟨bk, 0, none⟩), .pointer (some ⟨ba, 0, none⟩)] w fun e w' =>
      e = .returned (.bool (ans la B xs.length)) ∧ LogSt w' base bl bk ba aa la capa (xs ++ [s]) ∧ Kept (fun b => b = bl ∨ b = bk ∨ rowOf w bl b) w w' := by
  obtain ⟨⟨v, hv, hown⟩, fl, hk, fk, ha, hsz, lb, kb, ab, lk, la', ka⟩ := hst
  obtain ⟨i0, hi, hz0, hz1, hz2⟩ := info_parts Yba.info3
  unfold maxLen at hla
  have l1 := cell_lt hv
  have l2 := cell_lt hk
  have l3 := cell_lt ha
  by_cases hlt2 : xs.length < la
  · obtain ⟨b, off, rfl, hbb, nbl, nbk, hcb⟩ := hsrc hlt2
    have hi2 : (xs.length : Int) < (la : Int) := by omega
    have HCB : Hid (w.cell? ⟨b, off + xs.length, none⟩ = some (.bool (B xs.length))) := hcb
    clear hcb hsrc
    go_enter Yba.func9, Yba.ntmps9
    go_wp2_with (at_builtin; refine wpList_append_lies _ rfl _ _ 28 rfl base 3 i0 (.int .i64 0) 1 8 Yba.underlying28 hi hz0 hz1 hz2 rfl (by decide) _ _ _ rfl ((hown.alloc _).alloc _) ⟨w.heap.size + 1, 0, none⟩ 1 1 [.int .i64 s] rfl rfl (one_new _ _ _) (ints_oneCell .i64 [s]) (by decide) (by unfold maxLen; omega) (by omega) (by simp; omega) (w.heap.size + 2) (by simp) ?_)
    intro g cap w1 hown1 hg1 hat hlt
    have hk0 : Kept (rowOf w bl) w w1 := (((Kept.refl _ _).alloc _).alloc _).trans (Kept.grown hg1 (fun k e => ⟨v, hv, e⟩))
    have hk1 : Kept (fun b => base ≤ b) w w1 := hk0.mono (fun b h => by obtain ⟨v', h1, h2⟩ := h; rw [hv] at h1; cases h1; exact (hown.lt b h2).1)
    have hgb : base ≤ g := (hown1.lt g rfl).1
    have c1 := hk1.cell hv (by omega)
    have c2 := hk1.cell hk (by omega)
    have c3 := hk1.cell ha (by omega)
    have f1 := (hk1.frozen (o := 0) l1 (by omega)).trans fl
    have f2 := (hk1.frozen (o := 0) l2 (by omega)).trans fk
    have HK1 : Hid (Kept (rowOf w bl) w w1) := hk0
    have HO : Hid (w1.ownsRow base 3 1 (Value.slice (some ⟨g, 0, none⟩) (xs.length + 1) cap) (xs.length + 1) (xs.map (Value.int .i64) ++ [.int .i64 s])) := hown1
    have c4 := hk1.cell HCB.out (by omega)
    clear hk0 hk1 hown1 hg1 hown hv hk ha fl fk hat hlt
    go_wp2
    go_ret
    exact ⟨by simp [ans, hlt2], log_step HO.out HK1.out c1 c2 c3 f1 f2 hsz lb kb ab lk la' ka⟩
  · have hi2 : ¬ (xs.length : Int) < (la : Int) := by omega
    clear hsrc
    go_enter Yba.func9, Yba.ntmps9
    go_wp2_with (at_builtin; refine wpList_append_lies _ rfl _ _ 28 rfl base 3 i0 (.int .i64 0) 1 8 Yba.underlying28 hi hz0 hz1 hz2 rfl (by decide) _ _ _ rfl ((hown.alloc _).alloc _) ⟨w.heap.size + 1, 0, none⟩ 1 1 [.int .i64 s] rfl rfl (one_new _ _ _) (ints_oneCell .i64 [s]) (by decide) (by unfold maxLen; omega) (by omega) (by simp; omega) (w.heap.size + 2) (by simp) ?_)
    intro g cap w1 hown1 hg1 hat hlt
    have hk0 : Kept (rowOf w bl) w w1 := (((Kept.refl _ _).alloc _).alloc _).trans (Kept.grown hg1 (fun k e => ⟨v, hv, e⟩))
    have hk1 : Kept (fun b => base ≤ b) w w1 := hk0.mono (fun b h => by obtain ⟨v', h1, h2⟩ := h; rw [hv] at h1; cases h1; exact (hown.lt b h2).1)
    have hgb : base ≤ g := (hown1.lt g rfl).1
    have c1 := hk1.cell hv (by omega)
    have c2 := hk1.cell hk (by omega)
    have c3 := hk1.cell ha (by omega)
    have f1 := (hk1.frozen (o := 0) l1 (by omega)).trans fl
    have f2 := (hk1.frozen (o := 0) l2 (by omega)).trans fk
    have HK1 : Hid (Kept (rowOf w bl) w w1) := hk0
    have HO : Hid (w1.ownsRow base 3 1 (Value.slice (some ⟨g, 0, none⟩) (xs.length + 1) cap) (xs.length + 1) (xs.map (Value.int .i64) ++ [.int .i64 s])) := hown1
    clear hk0 hk1 hown1 hg1 hown hv hk ha fl fk hat hlt
    go_wp2
    go_ret
    exact ⟨by simp [ans, hlt2], log_step HO.out HK1.out c1 c2 c3 f1 f2 hsz lb kb ab lk la' ka⟩
end Go.Proofs.Ybulkiec
