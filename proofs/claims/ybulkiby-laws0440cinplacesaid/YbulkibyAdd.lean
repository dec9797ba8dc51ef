/-
  The contracts of 'zzs0440ccopy' (zz_law_s0440c.go:3) and 'addInto' (pick.go:813).
-/
import Derived.Test.YbulkibyRows
import Derived.WalkKit
import Derived.ProofKit
import Derived.OpenShut
import Derived.Deep.OwnRows
import Derived.Deep.QuietTactic
import Derived.BigQuiet
namespace Go.Proofs.Ybulkiby
open Go.ChangeShapes Go.WideShapes Go.ChangeAt Go.RowKit

theorem Yba.info28 : (Yba.prog.info? 28).map (fun i => (i.zero, i.size, i.bytes)) = some (some (.int .i64 0), 1, 8) := by kernel_rfl

theorem copy_step {wr : World} {g n k : Nat} {f : Nat → Int} (h : wr.rowIs g 28 n (fun j => if j < k then .int .i64 (f j) else .int .i64 0)) :
    (wr.setCell ⟨g, k, none⟩ (.int .i64 (f k))).rowIs g 28 n (fun j => if j < k + 1 then .int .i64 (f j) else .int .i64 0) := by
  refine (h.set k _).congr ?_
  intro i hi
  show (if i = k then Value.int .i64 (f k) else if i < k then .int .i64 (f i) else .int .i64 0) = _
  by_cases e : i = k
  · subst e
    simp
  · by_cases e2 : i < k
    · rw [if_neg e, if_pos e2, if_pos (by omega)]
    · rw [if_neg e, if_neg e2, if_neg (by omega)]

set_option maxHeartbeats 400000 in
/-- A slice with at least one element. -/
theorem copy_some (b off len cap : Nat) (f : Nat → Int) (w : World) (hl : len ≤ 1024) (hb : b < w.heap.size) (hc : ∀ i, i < len → w.cell? ⟨b, off + i, none⟩ = some (.int .i64 (f i))) :
    Calls Yba.prog 8 #[.slice (some ⟨b, off, none⟩) len cap] w fun e w' => e = .returned (.slice (some ⟨w.heap.size, 0, none⟩) len len) ∧
      w'.rowIs w.heap.size 28 len (fun i => .int .i64 (f i)) ∧ Below w.heap.size w w' ∧ w'.heap.size = w.heap.size + 1 := by
  have hmk := fun w => run_make_row' (P := Yba.prog) 26 28 (.int .i64 0) 8 Yba.underlying26 Yba.info28 rfl .i64 .i64 len (by omega) (by omega) w
  have HC : Hid (∀ i, i < len → w.cell? ⟨b, off + i, none⟩ = some (.int .i64 (f i))) := hc
  clear hc
  go_enter Yba.func8, Yba.ntmps8
  go_wp2
  go_loopw [4] (fun i wr => ∃ k : Nat, k ≤ len ∧ i = .int .i64 k ∧ wr.rowIs w.heap.size 28 len (fun j => if j < k then .int .i64 (f j) else .int .i64 0) ∧ Below w.heap.size w wr ∧ wr.heap.size = w.heap.size + 1)
    (fun i _ => len - (intOf i).toNat)
  case atStart => exact ⟨0, by omega, rfl, World.rowIs_made w _ _ _, (Below.refl _ _).alloc (Nat.le_refl _) _, by simp⟩
  case round =>
    obtain ⟨k, hk, rfl, hrow, hbel, hsz⟩ := hrel
    have HB : Hid (Below w.heap.size w wr) := hbel
    have HS : Hid (wr.heap.size = w.heap.size + 1) := hsz
    clear hbel hsz
    by_cases hlt : k < len
    · have g1 : wr.cell? ⟨b, off + k, none⟩ = some (.int .i64 (f k)) := (HB.out.cell (by exact hb)).trans (HC.out k hlt)
      have g2 := hrow.cell hlt
      have g3 := hrow.frozen k
      have hrow' := copy_step hrow
      go_wp2
      go_roundw
      case rel => exact ⟨k + 1, by omega, by go_num, hrow', HB.out.setCell (Nat.le_refl _) _, by simpa using HS.out⟩
      case measure => simp [intOf]; omega
    · go_wp2
      go_ret
      exact ⟨rfl, hrow.congr (fun i hi => by rw [if_pos (by omega)]), HB.out, HS.out⟩

/-- A slice of no element: nil, or whatever address. -/
theorem copy_none (a : Option Addr) (cap : Nat) (f : Nat → Int) (w : World) :
    Calls Yba.prog 8 #[.slice a 0 cap] w fun e w' => e = .returned (.slice (some ⟨w.heap.size, 0, none⟩) 0 0) ∧
      w'.rowIs w.heap.size 28 0 (fun i => .int .i64 (f i)) ∧ Below w.heap.size w w' ∧ w'.heap.size = w.heap.size + 1 := by
  have hmk := fun w => run_make_row' (P := Yba.prog) 26 28 (.int .i64 0) 8 Yba.underlying26 Yba.info28 rfl .i64 .i64 0 (by omega) (by omega) w
  have hmk' : ∀ w, (Instr.makeSlice 26 (.int .i64 0) (.int .i64 0)).run Yba.prog w = .ok (.slice (some ⟨w.heap.size, 0, none⟩) 0 0) (w.alloc (.cells (madeCells #[.int .i64 0] 0) 28)) := hmk
  clear hmk
  go_enter Yba.func8, Yba.ntmps8
  go_wp2
  refine wp_loop_rounds 1 ?_
  rw [rounds_succ]
  go_wp2
  go_ret
  exact ⟨rfl, (World.rowIs_made w (.int .i64 0) 0 28).congr (fun i hi => by omega), (Below.refl _ _).alloc (Nat.le_refl _) _, by simp⟩

/-- What the laws know of the slice that came in: where it has elements it lies in a block that is there, and element i is 'f i'. -/
def Src (w : World) (a : Option Addr) (len : Nat) (f : Nat → Int) : Prop :=
  len = 0 ∨ ∃ b off, a = some ⟨b, off, none⟩ ∧ b < w.heap.size ∧ ∀ i, i < len → w.cell? ⟨b, off + i, none⟩ = some (.int .i64 (f i))

theorem copy_any (a : Option Addr) (len cap : Nat) (f : Nat → Int) (w : World) (hl : len ≤ 1024) (hs : Src w a len f) :
    Calls Yba.prog 8 #[.slice a len cap] w fun e w' => e = .returned (.slice (some ⟨w.heap.size, 0, none⟩) len len) ∧
      w'.rowIs w.heap.size 28 len (fun i => .int .i64 (f i)) ∧ Below w.heap.size w w' ∧ w'.heap.size = w.heap.size + 1 := by
  rcases hs with rfl | ⟨b, off, rfl, hb, hc⟩
  · exact copy_none a cap f w
  · exact copy_some b off len cap f w hl hb hc

theorem add_step {wr : World} {g n k : Nat} {f : Nat → Int} {ga : Int} {F : Nat → Value} (h : wr.rowIs g 28 n (fun j => if j < k then .int .i64 (wrap64 (f j + ga)) else F j)) :
    (wr.setCell ⟨g, k, none⟩ (.int .i64 (wrap64 (f k + ga)))).rowIs g 28 n (fun j => if j < k + 1 then .int .i64 (wrap64 (f j + ga)) else F j) := by
  refine (h.set k _).congr ?_
  intro i hi
  show (if i = k then Value.int .i64 (wrap64 (f k + ga)) else if i < k then .int .i64 (wrap64 (f i + ga)) else F i) = _
  by_cases e : i = k
  · subst e
    simp
  · by_cases e2 : i < k
    · rw [if_neg e, if_pos e2, if_pos (by omega)]
    · rw [if_neg e, if_neg e2, if_neg (by omega)]

theorem grown_setCell {w w' : World} {g : Nat} (h : w.grownBy w' (some g)) (i : Nat) (v : Value) : w.grownBy (w'.setCell ⟨g, i, none⟩ v) (some g) :=
  ⟨h.os, h.tape, h.output, by simpa [World.setCell] using h.size, fun k hk hne => by
    rw [Below.heap_setCell _ _ _ _ (fun e => hne (by rw [e]))]
    exact h.block k hk hne⟩

set_option maxHeartbeats 400000 in
/-- 'addInto(to, a, ga)': 'to' the first m cells of block g (of N cells), 'a' a slice from block h's head on (h may be g): the first m cells of g become the sums; nothing else turns. -/
theorem add_any (g h m c1 n c2 N : Nat) (f : Nat → Int) (F : Nat → Value) (ga : Int) (w : World) (hm : m ≤ 1024) (hmN : m ≤ N) (hm2 : m ≤ c2)
    (hrow : w.rowIs g 28 N F) (hsrc : ∀ i, i < m → w.cell? ⟨h, i, none⟩ = some (.int .i64 (f i))) :
    Calls Yba.prog 9 #[.slice (some ⟨g, 0, none⟩) m c1, .slice (some ⟨h, 0, none⟩) n c2, .int .i64 ga] w fun e w' => e = .returned (.tuple #[]) ∧
      w'.rowIs g 28 N (fun j => if j < m then .int .i64 (wrap64 (f j + ga)) else F j) ∧ w.grownBy w' (some g) ∧ w'.heap.size = w.heap.size := by
  have HC : Hid (∀ i, i < m → w.cell? ⟨h, i, none⟩ = some (.int .i64 (f i))) := hsrc
  clear hsrc
  go_enter Yba.func9, Yba.ntmps9
  go_wp2
  go_loopw [14] (fun i wr => ∃ k : Nat, k ≤ m ∧ i = .int .i64 k ∧ wr.rowIs g 28 N (fun j => if j < k then .int .i64 (wrap64 (f j + ga)) else F j) ∧
      Hid (∀ i, k ≤ i → i < m → wr.cell? ⟨h, i, none⟩ = some (.int .i64 (f i))) ∧ Hid (w.grownBy wr (some g)) ∧ Hid (wr.heap.size = w.heap.size))
    (fun i _ => m - (intOf i).toNat)
  case atStart => exact ⟨0, by omega, rfl, hrow.congr (fun i hi => by simp), fun i _ hi => HC.out i hi, World.grownBy.refl _ _, rfl⟩
  case round =>
    obtain ⟨k, hk, rfl, hr, HX, HG, HS⟩ := hrel
    by_cases hlt : k < m
    · have g1 : wr.cell? ⟨h, k, none⟩ = some (.int .i64 (f k)) := HX.out k (Nat.le_refl _) hlt
      have g2 : wr.cell? ⟨g, k, none⟩ = some (if k < k then .int .i64 (wrap64 (f k + ga)) else F k) := hr.cell (by omega)
      rw [if_neg (by omega)] at g2
      have g3 := hr.frozen k
      have hr' := add_step hr
      have HX' : Hid (∀ i, k + 1 ≤ i → i < m → (wr.setCell ⟨g, k, none⟩ (.int .i64 (wrap64 (f k + ga)))).cell? ⟨h, i, none⟩ = some (.int .i64 (f i))) := by
        intro i h1 h2
        rw [World.cell?_setCell_other _ _ _ _ (fun e => by injection e; omega)]
        exact HX.out i (by omega) h2
      go_wp2
      go_roundw
      case rel => exact ⟨k + 1, by omega, by go_num, hr', HX', grown_setCell HG.out _ _, (by show _ = _; simpa [World.setCell] using HS.out)⟩
      case measure => simp [intOf]; omega
    · have hkm : k = m := by omega
      have hr2 : wr.rowIs g 28 N (fun j => if j < m then .int .i64 (wrap64 (f j + ga)) else F j) := hkm ▸ hr
      clear hkm
      go_wp2
      go_end0
      exact ⟨rfl, hr2, HG.out, HS.out⟩
end Go.Proofs.Ybulkiby
