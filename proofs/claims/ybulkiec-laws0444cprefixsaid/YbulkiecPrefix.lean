/-
  The walk of LawS0444CPrefix.
-/
import Derived.Test.YbulkiecEmit
namespace Go.Proofs.Ybulkiec
open Go.ChangeShapes Go.WideShapes Go.ChangeAt Go.RowKit
set_option linter.unusedVariables false

/-! ### The plain law -/
/-- After i events: has the driver stopped, and how many were handed on. -/
def stp (pre : Bool) (A : Nat → Bool) : Nat → Bool × Nat
  | 0 => (pre, 0)
  | i + 1 => if (stp pre A i).1 then stp pre A i else (!A (stp pre A i).2, (stp pre A i).2 + 1)

theorem stp_le (pre : Bool) (A : Nat → Bool) (i : Nat) : (stp pre A i).2 ≤ i := by
  induction i with
  | zero => simp [stp]
  | succ i ih =>
    unfold stp
    split
    · omega
    · show (stp pre A i).2 + 1 ≤ i + 1
      omega

theorem stp_count (pre : Bool) (A : Nat → Bool) (i : Nat) (h : (stp pre A i).1 = false) : (stp pre A i).2 = i := by
  induction i with
  | zero => rfl
  | succ i ih =>
    unfold stp at h ⊢
    split at h
    · rename_i h1
      rw [h1] at h
      cases h
    · rename_i h1
      rw [if_neg h1]
      show (stp pre A i).2 + 1 = i + 1
      rw [ih (by simpa using h1)]

theorem stp_stop (pre : Bool) (A : Nat → Bool) (i : Nat) (h : (stp pre A i).1 = true) : stp pre A (i + 1) = stp pre A i := by
  show (if (stp pre A i).1 then _ else _) = _
  rw [if_pos h]

theorem stp_go (pre : Bool) (A : Nat → Bool) (i : Nat) (h : (stp pre A i).1 = false) : stp pre A (i + 1) = (!A i, i + 1) := by
  show (if (stp pre A i).1 then _ else _) = _
  rw [if_neg (by simp [h]), stp_count pre A i h]

theorem stp_stays (pre : Bool) (A : Nat → Bool) (i n : Nat) (h : (stp pre A i).1 = true) (hn : i ≤ n) : stp pre A n = stp pre A i := by
  obtain ⟨k, rfl⟩ := Nat.exists_eq_add_of_le hn
  clear hn
  induction k with
  | zero => rfl
  | succ k ih =>
    have e : stp pre A (i + (k + 1)) = stp pre A (i + k) := stp_stop pre A (i + k) (by rw [ih]; exact h)
    rw [e, ih]

def logOf (f : Nat → Int) (c : Nat) : List Int := (List.range c).map f
theorem logOf_length (f : Nat → Int) (c : Nat) : (logOf f c).length = c := by simp [logOf]
theorem logOf_succ (f : Nat → Int) (c : Nat) : logOf f (c + 1) = logOf f c ++ [f c] := by simp [logOf, List.range_succ]

/-- A slice of integers that came in. -/
def Src (w : World) (a : Option Addr) (len : Nat) (f : Nat → Int) : Prop :=
  len = 0 ∨ ∃ b off, a = some ⟨b, off, none⟩ ∧ b < w.heap.size ∧ ∀ i, i < len → w.cell? ⟨b, off + i, none⟩ = some (.int .i64 (f i))

theorem src_at {w wr : World} {ao : Option Addr} {len : Nat} {f : Nat → Int} (hs : Src w ao len f) {k : Nat} (hk : k < len) (h : Below w.heap.size w wr) :
    ∃ b off, ao = some ⟨b, off, none⟩ ∧ wr.cell? ⟨b, off + k, none⟩ = some (.int .i64 (f k)) := by
  rcases hs with h0 | ⟨b, off, hao, hb, hc⟩
  · omega
  · exact ⟨b, off, hao, (h.cell (by exact hb)).trans (hc k hk)⟩

theorem srcB_at {w wr : World} {ao : Option Addr} {len : Nat} {B : Nat → Bool} (hs : SrcB w ao len B) {k : Nat} (hk : k < len) (h : Below w.heap.size w wr) :
    ∃ b off, ao = some ⟨b, off, none⟩ ∧ b < w.heap.size ∧ wr.cell? ⟨b, off + k, none⟩ = some (.bool (B k)) := by
  rcases hs with h0 | ⟨b, off, hao, hb, hc⟩
  · omega
  · exact ⟨b, off, hao, hb, (h.cell (by exact hb)).trans (hc k hk)⟩

/-- The four blocks that the law lays first. -/
theorem start4 (w : World) (a1 : Option Addr) (len1 cap1 : Nat) (pre : Bool) : ∃ W0,
    (((w.alloc (Obj.cells #[Value.slice a1 len1 cap1] 49)).alloc (Obj.cells #[Value.slice none 0 0] 28)).alloc (Obj.cells #[Value.int IntKind.i64 0] 3)).alloc
      (Obj.cells #[Value.pointer none, Value.slice none 0 0, Value.slice none 0 0, Value.slice none 0 0, Value.slice none 0 0, Value.slice none 0 0, Value.slice none 0 0, Value.nilIface,
        Value.func (Fn.func 9) #[] #[Value.pointer (some ⟨w.heap.size + 1, 0, none⟩), Value.pointer (some ⟨w.heap.size + 1 + 1, 0, none⟩), Value.pointer (some ⟨w.heap.size, 0, none⟩)],
        Value.bool pre, Value.slice none 0 0, Value.slice none 0 0, Value.slice none 0 0, Value.slice none 0 0, Value.pointer none] 53) = W0 ∧
    LogSt W0 W0.heap.size (w.heap.size + 1) (w.heap.size + 1 + 1) w.heap.size a1 len1 cap1 [] ∧ DrvSt W0 (w.heap.size + 1 + 1 + 1) (w.heap.size + 1) (w.heap.size + 1 + 1) w.heap.size pre ∧ Below w.heap.size w W0 ∧ W0.heap.size = w.heap.size + 4 := by
  refine ⟨_, rfl, ⟨⟨.slice none 0 0, ?_, World.ownsRow_nil _ _ _ _⟩, ?_, ?_, ?_, ?_, ?_, ?_, ?_, ?_, ?_, ?_, ?_⟩, ⟨?_, ?_, ?_⟩, ?_, ?_⟩
  · go_simp
  · go_simp
  · go_simp
  · go_simp
  · go_simp
  · exact Nat.le_refl _
  · first | (simp; done) | (simp; omega)
  · simp
  · first | (simp; done) | (simp; omega)
  · omega
  · omega
  · omega
  · go_simp
  · go_simp
  · go_simp
  · exact ((((Below.refl _ _).alloc (Nat.le_refl _) _).alloc (by simp) _).alloc (by simp; omega) _).alloc (by simp; omega) _
  · simp

/-- What the log's variable holds. -/
theorem log_shape {w : World} {base bl bk ba : Nat} {aa : Option Addr} {la capa : Nat} {xs : List Int} (h : LogSt w base bl bk ba aa la capa xs) :
    ∃ ao cap, w.cell? ⟨bl, 0, none⟩ = some (.slice ao xs.length cap) ∧ (0 < xs.length → ∃ g, ao = some ⟨g, 0, none⟩ ∧ ∀ i, i < xs.length → w.cell? ⟨g, i, none⟩ = some (.int .i64 (xs.getD i 0))) := by
  obtain ⟨v, hv, hown⟩ := h.own
  by_cases h0 : 0 < xs.length
  · obtain ⟨g, cap, rfl, hb, hlt⟩ := hown.form h0
    refine ⟨some ⟨g, 0, none⟩, cap, hv, fun _ => ⟨g, rfl, fun i hi => ?_⟩⟩
    rw [hown.cellAt i (by omega)]
    simp [List.getD, hi]
  · rcases hown.2 with ⟨rfl, hn⟩ | ⟨g, cap, cur, rfl, _⟩
    · exact ⟨none, 0, by rw [hv, hn], fun h => absurd h h0⟩
    · exact ⟨_, _, hv, fun h => absurd h h0⟩

theorem logOf_getD (f : Nat → Int) (c i : Nat) (h : i < c) : (logOf f c).getD i 0 = f i := by simp [logOf, List.getD, h]

set_option maxRecDepth 100000 in
set_option maxHeartbeats 4000000 in
theorem prefix_main (a0 : Option Addr) (len0 cap0 : Nat) (f : Nat → Int) (a1 : Option Addr) (len1 cap1 : Nat) (B : Nat → Bool) (pre : Bool) (w : World) (hl : len0 ≤ 1024) (hs0 : Src w a0 len0 f) (hs1 : SrcB w a1 len1 B) (hl1 : len1 ≤ maxLen) :
    Calls Yba.prog 4 #[.slice a0 len0 cap0, .slice a1 len1 cap1, .bool pre] w fun e w' => e = .returned (.bool true) ∧ Below w.heap.size w w' := by
  have hgt : decide ((1024 : Int) < (len0 : Int)) = false := by simp; omega
  have HS0 : Hid (Src w a0 len0 f) := hs0
  have HS1 : Hid (SrcB w a1 len1 B) := hs1
  have HL1 : Hid (len1 ≤ maxLen) := hl1
  clear hs0 hs1 hl1
  go_enter Yba.func4, Yba.ntmps4
  obtain ⟨W0, hW0, hL0, hD0, hB0, hZ0⟩ := start4 w a1 len1 cap1 pre
  have HW0 := hid hW0
  have HL0 := hid hL0
  have HB0 := hid hB0
  have HZ0 := hid hZ0
  have HD0 := hid hD0
  clear hW0 hL0 hB0 hZ0 hD0
  go_wp2_with fail
  rw [HW0.out]
  clear HW0
  go_loopw [27] (fun i wr => ∃ k : Nat, k ≤ len0 ∧ i = .int .i64 k ∧ Hid (LogSt wr W0.heap.size (w.heap.size + 1) (w.heap.size + 1 + 1) w.heap.size a1 len1 cap1 (logOf f (stp pre (ans len1 B) k).2)) ∧
      Hid (DrvSt wr (w.heap.size + 1 + 1 + 1) (w.heap.size + 1) (w.heap.size + 1 + 1) w.heap.size (stp pre (ans len1 B) k).1) ∧ Hid (Kept (fun b => b = w.heap.size + 1 + 1 + 1 ∨ b = w.heap.size + 1 ∨ b = w.heap.size + 1 + 1 ∨ W0.heap.size ≤ b) W0 wr))
    (fun i _ => len0 - (intOf i).toNat)
  case atStart => exact ⟨0, by omega, rfl, HL0, HD0, Kept.refl _ _⟩
  case round =>
    clear HL0 HD0
    obtain ⟨k, hk, rfl, HL, HD, HK⟩ := hrel
    have HB : Hid (Below w.heap.size w wr) := HB0.out.trans (HK.out.below HB0.out.size (fun b hb => by have := HZ0.out; omega))
    by_cases hlt : k < len0
    · obtain ⟨b, off, hao, hcs⟩ := src_at HS0.out hlt HB.out
      subst hao
      have hki : (k : Int) < (len0 : Int) := by omega
      cases hsp : (stp pre (ans len1 B) k).1
      · have HL2 := HL.out
        have HD2 := HD.out
        rw [hsp] at HD2
        rw [stp_count _ _ _ hsp] at HL2
        have HE := hid (stp_go _ _ _ hsp)
        have HLL := hid HL2
        have HDD := hid HD2
        clear HL HD HL2 HD2 hsp
        go_wp2_with fail
        refine (emit_go (w.heap.size + 1 + 1 + 1) W0.heap.size (w.heap.size + 1) (w.heap.size + 1 + 1) w.heap.size a1 len1 cap1 B (logOf f k) (f k) _ _ _ _ _ _ _ _ _ _ _ _ HLL.out HDD.out (by have := HZ0.out; omega) (by omega) (by omega) (by omega) (by rw [logOf_length]; omega) HL1.out ?_).mono ?_
        · intro h
          rw [logOf_length] at h ⊢
          obtain ⟨b', off', h1, h2, h3⟩ := srcB_at HS1.out h HB.out
          exact ⟨b', off', h1, by have := HZ0.out; omega, by omega, by omega, h3⟩
        · rintro e w1 ⟨rfl, hl1, hd1, hk1⟩
          rw [logOf_length] at hd1
          rw [← logOf_succ] at hl1
          have HL1' := hid hl1
          have HD1' := hid hd1
          have HK1 := hid (HK.out.trans hk1)
          clear hl1 hd1 hk1 HLL HDD HK HB
          go_wp2
          go_roundw
          case rel => exact ⟨k + 1, by omega, by go_num, by rw [HE.out]; exact HL1', by rw [HE.out]; exact HD1', HK1⟩
          case measure => simp [intOf]; omega
      · have HD2 := HD.out
        rw [hsp] at HD2
        have HE := hid (stp_stop _ _ _ hsp)
        have HP := hid hsp
        have HDD := hid HD2
        clear HD HD2 hsp
        go_wp2_with fail
        refine (emit_stop _ _ _ _ _ _ _ _ _ _ _ _ _ _ _ _ _ HDD.out).mono ?_
        rintro e w1 ⟨rfl, hb1⟩
        have HL1' := hid (HL.out.grow hb1)
        have HD1' := hid (HDD.out.grow hb1)
        have HK1 := hid (HK.out.trans (Kept.of_below hb1))
        clear HL HDD HK HB hb1
        go_wp2
        go_roundw
        case rel => exact ⟨k + 1, by omega, by go_num, by rw [HE.out]; exact HL1', by rw [HE.out, HP.out]; exact HD1', HK1⟩
        case measure => simp [intOf]; omega
    · have hke : k = len0 := by omega
      subst hke
      obtain ⟨ao, lcap, cl, hrow⟩ := log_shape HL.out
      rw [logOf_length] at cl hrow
      have HRow := hid hrow
      have ca := HL.out.a
      have c9 := HD.out.c9
      clear hrow HL HD HK HL1 hlt
      cases pre
      · -- the loop that reckons what is wanted
        go_wp2
        go_loop [13, 14, 15] (fun u t _ => ∃ (c : Nat) (st : Bool), c ≤ k ∧ u = .int .i64 c ∧ t = .bool st ∧ Hid (stp false (ans len1 B) c = (st, c))) (fun u t _ => 2 * (k - (intOf u).toNat))
        case atStart => exact ⟨0, false, by omega, rfl, rfl, rfl⟩
        case round =>
          obtain ⟨c, st, hc, rfl, rfl, HS⟩ := hrel
          by_cases hgo : st = false ∧ c < k
          · obtain ⟨rfl, hck⟩ := hgo
            have HN : Hid (stp false (ans len1 B) (c + 1) = (!ans len1 B c, c + 1)) := stp_go _ _ _ (by rw [HS.out])
            have ci : (c : Int) < (k : Int) := by omega
            by_cases hca : c < len1
            · obtain ⟨b, off, hao, _, hcs⟩ := srcB_at HS1.out hca HB.out
              subst hao
              have cj : (c : Int) < (len1 : Int) := by omega
              have HA : Hid (ans len1 B c = B c) := by show _ = _; simp [ans, hca]
              cases hb : B c
              · rw [hb] at hcs
                have HA2 := hid (HA.out.trans hb)
                clear hb HA
                go_wp2
                go_round
                case rel => exact ⟨c + 1, true, by omega, by go_num, rfl, by rw [HN.out, HA2.out]; rfl⟩
                case measure => simp [intOf]; omega
              · rw [hb] at hcs
                have HA2 := hid (HA.out.trans hb)
                clear hb HA
                go_wp2
                go_round
                case rel => exact ⟨c + 1, false, by omega, by go_num, rfl, by rw [HN.out, HA2.out]; rfl⟩
                case measure => simp [intOf]; omega
            · have cj : ¬ (c : Int) < (len1 : Int) := by omega
              have HA2 : Hid (ans len1 B c = true) := by show _ = _; simp [ans, hca]
              go_wp2
              go_round
              case rel => exact ⟨c + 1, false, by omega, by go_num, rfl, by rw [HN.out, HA2.out]; rfl⟩
              case measure => simp [intOf]; omega
          · have hfin : stp false (ans len1 B) k = (st, c) := by
              cases st
              · have : c = k := by
                  by_cases hck : c < k
                  · exact absurd ⟨rfl, hck⟩ hgo
                  · omega
                rw [← this]
                exact HS.out
              · rw [stp_stays false (ans len1 B) c k (by rw [HS.out]) hc]
                exact HS.out
            have cl2 := cl
            have c92 := c9
            rw [hfin] at cl2 c92
            have HRow2 := HRow.out
            rw [hfin] at HRow2
            have HRow2 := hid HRow2
            clear cl c9 HRow hfin HS
            by_cases hck : c < k
            · have hst : st = true := by
                cases st
                · exact absurd ⟨rfl, hck⟩ hgo
                · rfl
              subst hst
              clear hgo
              have ci : (c : Int) < (k : Int) := by omega
              go_wp2
              go_loopw [16] (fun u wz => ∃ m : Nat, m ≤ c ∧ u = .int .i64 m ∧ ∃ nd, wz = wr.drewN nd) (fun u _ => c - (intOf u).toNat)
              case atStart => exact ⟨0, by omega, rfl, 0, rfl⟩
              case round =>
                obtain ⟨m, hm, rfl, nd, rfl⟩ := hrel
                by_cases hmc : m < c
                · obtain ⟨b, off, hao, hcs⟩ := src_at HS0.out (show m < k by omega) HB.out
                  subst hao
                  obtain ⟨g, hg, hgc⟩ := HRow2.out (by omega)
                  subst hg
                  have hcl := hgc m hmc
                  rw [logOf_getD _ _ _ hmc] at hcl
                  clear hgc
                  have i1 : (m : Int) < (c : Int) := by omega
                  have i2 : (m : Int) < (k : Int) := by omega
                  go_wp2
                  go_quiet (fail)
                  go_wp2
                  go_roundw
                  case rel => exact ⟨m + 1, by omega, by go_num, _, rfl⟩
                  case measure => simp [intOf]; omega
                · go_wp2
                  go_ret
                  exact ⟨rfl, below_drewN HB.out _⟩
            · clear hgo
              have ci : ¬ (c : Int) < (k : Int) := by omega
              go_wp2
              go_loopw [16] (fun u wz => ∃ m : Nat, m ≤ c ∧ u = .int .i64 m ∧ ∃ nd, wz = wr.drewN nd) (fun u _ => c - (intOf u).toNat)
              case atStart => exact ⟨0, by omega, rfl, 0, rfl⟩
              case round =>
                obtain ⟨m, hm, rfl, nd, rfl⟩ := hrel
                by_cases hmc : m < c
                · obtain ⟨b, off, hao, hcs⟩ := src_at HS0.out (show m < k by omega) HB.out
                  subst hao
                  obtain ⟨g, hg, hgc⟩ := HRow2.out (by omega)
                  subst hg
                  have hcl := hgc m hmc
                  rw [logOf_getD _ _ _ hmc] at hcl
                  clear hgc
                  have i1 : (m : Int) < (c : Int) := by omega
                  have i2 : (m : Int) < (k : Int) := by omega
                  go_wp2
                  go_quiet (fail)
                  go_wp2
                  go_roundw
                  case rel => exact ⟨m + 1, by omega, by go_num, _, rfl⟩
                  case measure => simp [intOf]; omega
                · go_wp2
                  go_ret
                  exact ⟨rfl, below_drewN HB.out _⟩
      · have hfin : stp true (ans len1 B) k = (true, 0) := stp_stays true (ans len1 B) 0 k rfl (by omega)
        have cl2 := cl
        have c92 := c9
        rw [hfin] at cl2 c92
        have HRow2 := HRow.out
        rw [hfin] at HRow2
        clear cl c9 HRow hfin HRow2
        go_wp2
        refine wp_loop_rounds 1 ?_
        rw [rounds_succ]
        go_wp2
        go_ret
        exact ⟨rfl, HB.out⟩
end Go.Proofs.Ybulkiec
