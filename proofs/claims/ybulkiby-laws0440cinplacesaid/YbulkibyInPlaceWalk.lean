/-
  The walk of 'LawS0440CInPlace' (zz_law_s0440c.go:46).
-/
import Derived.Test.YbulkibyAdd
namespace Go.Proofs.Ybulkiby
open Go.ChangeShapes Go.WideShapes Go.ChangeAt Go.RowKit

/-- What holds of the world behind the call of addInto: the copy's first m cells bear the sums, the rest is as it was copied; nothing older has turned. -/
def St2 (w : World) (g len m : Nat) (f : Nat → Int) (ga : Int) (wr : World) : Prop :=
  wr.rowIs g 28 len (fun j => if j < m then .int .i64 (wrap64 (f j + ga)) else .int .i64 (f j)) ∧ Below w.heap.size w wr

theorem St2.drewN {w : World} {g len m : Nat} {f : Nat → Int} {ga : Int} {wr : World} (h : St2 w g len m f ga wr) (n : Nat) : St2 w g len m f ga (wr.drewN n) :=
  ⟨h.1, ⟨h.2.os, h.2.tape, h.2.output, h.2.size, h.2.block⟩⟩

theorem src_at2 {w : World} {ao : Option Addr} {g len m : Nat} {f : Nat → Int} {ga : Int} {wr : World} (hs : Src w ao len f) {k : Nat} (hk : k < len) (h : St2 w g len m f ga wr) :
    ∃ b off, ao = some ⟨b, off, none⟩ ∧ wr.cell? ⟨b, off + k, none⟩ = some (.int .i64 (f k)) := by
  rcases hs with h0 | ⟨b, off, hao, hb, hc⟩
  · omega
  · exact ⟨b, off, hao, (h.2.cell (by exact hb)).trans (hc k hk)⟩

/-- 1,024 elements at most. -/
theorem inplace_main (ao : Option Addr) (len cap : Nat) (f : Nat → Int) (ga nn : Int) (m : Nat) (w : World) (hl : len ≤ 1024) (hs : Src w ao len f) (hn0 : 0 ≤ nn) (hn1 : nn ≤ 65535) (hm : nn % ((len : Int) + 1) = (m : Int)) (hml : m ≤ len) :
    Calls Yba.prog 6 #[.slice ao len cap, .int .i64 ga, .int .u16 nn] w fun e w' => e = .returned (.bool true) ∧ Below w.heap.size w w' := by
  have hgt : decide ((1024 : Int) < (len : Int)) = false := by simp; omega
  have HSrc : Hid (Src w ao len f) := hs
  clear hs
  go_enter Yba.func6, Yba.ntmps6
  go_wp2_with fail
  refine (copy_any ao len cap f _ hl HSrc.out).mono ?_
  rintro e w1 ⟨rfl, hr1, hb1, hz1⟩
  have HB1 : Hid (Below w.heap.size w w1) := hb1
  clear hb1 hz1
  go_wp2_with fail
  refine (add_any w.heap.size w.heap.size m len len len len f (fun i => .int .i64 (f i)) ga w1 (by omega) hml hml hr1 (fun i hi => hr1.cell (by omega))).mono ?_
  rintro e w2 ⟨rfl, hb3, hg3, hz3⟩
  have hst : St2 w w.heap.size len m f ga w2 := ⟨hb3, HB1.out.grown hg3 HB1.out.size (fun k e => by injection e with e; rw [← e]; exact Nat.le_refl _)⟩
  clear hr1 HB1 hb3 hg3 hz3
  go_wp2
  go_loopw [9] (fun i wr => ∃ k : Nat, k ≤ len ∧ i = .int .i64 k ∧ St2 w w.heap.size len m f ga wr) (fun i _ => len - (intOf i).toNat)
  case atStart => exact ⟨0, by omega, rfl, hst⟩
  case round =>
    clear hst
    obtain ⟨k2, hk2, rfl, hst⟩ := hrel
    by_cases hlt2 : k2 < len
    · obtain ⟨b, off, hao, hcs⟩ := src_at2 HSrc.out hlt2 hst
      subst hao
      have g1 : _ = some (if k2 < m then Value.int .i64 (wrap64 (f k2 + ga)) else .int .i64 (f k2)) := hst.1.cell (i := k2) (by omega)
      have hki : (k2 : Int) < (len : Int) := by omega
      by_cases hkm : k2 < m
      · rw [if_pos hkm] at g1
        have hki' : (k2 : Int) < (m : Int) := by omega
        go_wp2
        go_roundw
        case rel => exact ⟨k2 + 1, by omega, by go_num, hst⟩
        case measure => simp [intOf]; omega
      · rw [if_neg hkm] at g1
        have hki' : ¬ (k2 : Int) < (m : Int) := by omega
        go_wp2
        go_roundw
        case rel => exact ⟨k2 + 1, by omega, by go_num, hst⟩
        case measure => simp [intOf]; omega
    · go_wp2
      go_ret
      exact ⟨rfl, hst.2⟩
end Go.Proofs.Ybulkiby
