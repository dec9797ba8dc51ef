/-
  The walk of 'LawS0440CAdds' (zz_law_s0440c.go:14).
-/
import Derived.Test.YbulkibyAdd
namespace Go.Proofs.Ybulkiby
open Go.ChangeShapes Go.WideShapes Go.ChangeAt Go.RowKit

theorem rowIs_kept {w w' : World} {g h n : Nat} {F : Nat → Value} (hr : w.rowIs h 28 n F) (hg : w.grownBy w' (some g)) (hne : h ≠ g) : w'.rowIs h 28 n F :=
  hr.of_block (hg.block h hr.lt (fun e => hne (by injection e)))

/-- What holds of the world behind the call of addInto: the copy is as it was made, 'back' bears the sums and then the mark, nothing older has turned. -/
def St (w : World) (g g' len m : Nat) (f : Nat → Int) (ga : Int) (wr : World) : Prop :=
  wr.rowIs g 28 len (fun i => .int .i64 (f i)) ∧ wr.rowIs g' 28 (len + 1) (fun j => if j < m then .int .i64 (wrap64 (f j + ga)) else .int .i64 (-7)) ∧ Below w.heap.size w wr

theorem St.drewN {w : World} {g g' len m : Nat} {f : Nat → Int} {ga : Int} {wr : World} (h : St w g g' len m f ga wr) (n : Nat) : St w g g' len m f ga (wr.drewN n) :=
  ⟨h.1, h.2.1, ⟨h.2.2.os, h.2.2.tape, h.2.2.output, h.2.2.size, h.2.2.block⟩⟩

theorem src_at {w : World} {ao : Option Addr} {g g' len m : Nat} {f : Nat → Int} {ga : Int} {wr : World} (hs : Src w ao len f) {k : Nat} (hk : k < len) (h : St w g g' len m f ga wr) :
    ∃ b off, ao = some ⟨b, off, none⟩ ∧ wr.cell? ⟨b, off + k, none⟩ = some (.int .i64 (f k)) := by
  rcases hs with h0 | ⟨b, off, hao, hb, hc⟩
  · omega
  · exact ⟨b, off, hao, (h.2.2.cell (by exact hb)).trans (hc k hk)⟩

theorem fill_step {wr : World} {g n k : Nat} (h : wr.rowIs g 28 n (fun j => if j < k then .int .i64 (-7) else .int .i64 0)) :
    (wr.setCell ⟨g, k, none⟩ (.int .i64 (-7))).rowIs g 28 n (fun j => if j < k + 1 then .int .i64 (-7) else .int .i64 0) := by
  refine (h.set k _).congr ?_
  intro i hi
  show (if i = k then Value.int .i64 (-7) else if i < k then .int .i64 (-7) else .int .i64 0) = _
  by_cases e : i = k
  · subst e
    simp
  · by_cases e2 : i < k
    · rw [if_neg e, if_pos e2, if_pos (by omega)]
    · rw [if_neg e, if_neg e2, if_neg (by omega)]

/-- 1,024 elements at most. -/
theorem adds_main (ao : Option Addr) (len cap : Nat) (f : Nat → Int) (ga nn : Int) (m : Nat) (w : World) (hl : len ≤ 1024) (hs : Src w ao len f) (hn0 : 0 ≤ nn) (hn1 : nn ≤ 65535) (hm : nn % ((len : Int) + 1) = (m : Int)) (hml : m ≤ len) :
    Calls Yba.prog 5 #[.slice ao len cap, .int .i64 ga, .int .u16 nn] w fun e w' => e = .returned (.bool true) ∧ Below w.heap.size w w' := by
  have hmk := fun w => run_make_row' (P := Yba.prog) 26 28 (.int .i64 0) 8 Yba.underlying26 Yba.info28 rfl .i64 .i64 (len + 1) (by omega) (by omega) w
  rw [show ((len + 1 : Nat) : Int) = (len : Int) + 1 from by omega] at hmk
  have hgt : decide ((1024 : Int) < (len : Int)) = false := by simp; omega
  have HSrc : Hid (Src w ao len f) := hs
  clear hs
  go_enter Yba.func5, Yba.ntmps5
  go_wp2_with fail
  refine (copy_any ao len cap f _ hl HSrc.out).mono ?_
  rintro e w1 ⟨rfl, hr1, hb1, hz1⟩
  have HB1 : Hid (Below w.heap.size w w1) := hb1
  have HZ1 : Hid (w1.heap.size = w.heap.size + 1) := hz1
  clear hb1 hz1
  go_wp2
  go_loopw [10] (fun i wr => ∃ k : Nat, k ≤ len + 1 ∧ i = .int .i64 k ∧ wr.rowIs w1.heap.size 28 (len + 1) (fun j => if j < k then .int .i64 (-7) else .int .i64 0) ∧
      wr.rowIs w.heap.size 28 len (fun i => .int .i64 (f i)) ∧ Hid (Below w.heap.size w wr))
    (fun i _ => len + 1 - (intOf i).toNat)
  case atStart =>
    refine ⟨0, by omega, rfl, World.rowIs_made w1 _ _ _, hr1.alloc _, ?_⟩
    exact HB1.out.alloc (by have := HZ1.out; omega) _
  case round =>
    obtain ⟨k, hk, rfl, hb, ha, HB⟩ := hrel
    by_cases hlt : k < len + 1
    · have g2 : wr.cell? ⟨w1.heap.size, k, none⟩ = some (if k < k then .int .i64 (-7) else .int .i64 0) := hb.cell hlt
      rw [if_neg (by omega)] at g2
      have g3 := hb.frozen k
      have hb' := fill_step hb
      have ha' := ha.setOther (a := ⟨w1.heap.size, k, none⟩) (by have := HZ1.out; simp; omega) (.int .i64 (-7))
      have HB' : Hid (Below w.heap.size w (wr.setCell ⟨w1.heap.size, k, none⟩ (.int .i64 (-7)))) := HB.out.setCell (by have := HZ1.out; simp; omega) _
      have hki : (k : Int) < (len : Int) + 1 := by omega
      go_wp2
      go_roundw
      case rel => exact ⟨k + 1, by omega, by go_num, hb', ha', HB'⟩
      case measure => simp [intOf]; omega
    · have hb2 : wr.rowIs w1.heap.size 28 (len + 1) (fun _ => .int .i64 (-7)) := hb.congr (fun i hi => by rw [if_pos (by omega)])
      have HZ : Hid (w.heap.size ≠ w1.heap.size) := (by have := HZ1.out; show _ ≠ _; omega)
      have HLE : Hid (w.heap.size ≤ w1.heap.size) := (by have := HZ1.out; show _ ≤ _; omega)
      clear hb hr1 HB1 HZ1
      generalize w1.heap.size = G at *
      go_wp2_with fail
      refine (add_any G w.heap.size m (len + 1) len len (len + 1) f (fun _ => .int .i64 (-7)) ga wr (by omega) (by omega) hml hb2 (fun i hi => ha.cell (by omega))).mono ?_
      rintro e w2 ⟨rfl, hb3, hg3, hz3⟩
      have hst : St w w.heap.size G len m f ga w2 := ⟨rowIs_kept ha hg3 HZ.out, hb3, HB.out.grown hg3 HB.out.size (fun k e => by injection e with e; rw [← e]; exact HLE.out)⟩
      clear ha hb2 HB hb3 hg3 hz3 hmk
      go_wp2
      go_loopw [12] (fun i wr => ∃ k : Nat, k ≤ len ∧ i = .int .i64 k ∧ St w w.heap.size G len m f ga wr) (fun i _ => len - (intOf i).toNat)
      case atStart => exact ⟨0, by omega, rfl, hst⟩
      case round =>
        clear hst
        obtain ⟨k2, hk2, rfl, hst⟩ := hrel
        by_cases hlt2 : k2 < len
        · obtain ⟨b, off, hao, hcs⟩ := src_at HSrc.out hlt2 hst
          subst hao
          have g1 := hst.1.cell hlt2
          have hki : (k2 : Int) < (len : Int) := by omega
          go_wp2
          go_quiet (fail)
          go_wp2
          go_roundw
          case rel => exact ⟨k2 + 1, by omega, by go_num, hst.drewN _⟩
          case measure => simp [intOf]; omega
        · go_wp2
          go_loopw [13] (fun i wr => ∃ k : Nat, k ≤ m ∧ i = .int .i64 k ∧ St w w.heap.size G len m f ga wr) (fun i _ => m - (intOf i).toNat)
          case atStart => exact ⟨0, by omega, rfl, hst⟩
          case round =>
            clear hst
            obtain ⟨k3, hk3, rfl, hst⟩ := hrel
            by_cases hlt3 : k3 < m
            · obtain ⟨b, off, hao, hcs⟩ := src_at (k := k3) HSrc.out (by omega) hst
              subst hao
              have g1 : _ = some (if k3 < m then Value.int .i64 (wrap64 (f k3 + ga)) else .int .i64 (-7)) := hst.2.1.cell (i := k3) (by omega)
              rw [if_pos hlt3] at g1
              have hki : (k3 : Int) < (m : Int) := by omega
              have hkl : (k3 : Int) < (len : Int) := by omega
              have hkl' : (k3 : Int) < (len : Int) + 1 := by omega
              go_wp2
              go_quiet (fail)
              go_wp2
              go_roundw
              case rel => exact ⟨k3 + 1, by omega, by go_num, hst.drewN _⟩
              case measure => simp [intOf]; omega
            · go_wp2
              go_loopw [14] (fun i wr => ∃ k : Nat, m ≤ k ∧ k ≤ len + 1 ∧ i = .int .i64 k ∧ St w w.heap.size G len m f ga wr) (fun i _ => len + 1 - (intOf i).toNat)
              case atStart => exact ⟨m, by omega, by omega, rfl, hst⟩
              case round =>
                clear hst
                obtain ⟨k4, hk4, hk4', rfl, hst⟩ := hrel
                by_cases hlt4 : k4 < len + 1
                · have g1 : _ = some (if k4 < m then Value.int .i64 (wrap64 (f k4 + ga)) else .int .i64 (-7)) := hst.2.1.cell (i := k4) (by omega)
                  rw [if_neg (by omega)] at g1
                  have hkl' : (k4 : Int) < (len : Int) + 1 := by omega
                  go_wp2
                  go_roundw
                  case rel => exact ⟨k4 + 1, by omega, by omega, by go_num, hst⟩
                  case measure => simp [intOf]; omega
                · go_wp2
                  go_ret
                  exact ⟨rfl, hst.2.2⟩
end Go.Proofs.Ybulkiby
