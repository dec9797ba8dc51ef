/-
  LawS0444BRun: cmp.Compare at int, the closure, slices.BinarySearchFunc, slices.Equal.
-/
import Derived.Test.YbulkiecBase
namespace Go.Proofs.Ybulkiec
open Go.ChangeShapes Go.WideShapes Go.ChangeAt Go.RowKit
set_option linter.unusedVariables false

/-- The sign of a comparison. -/
def sgn (a b : Int) : Int := if a < b then -1 else if b < a then 1 else 0

theorem compare_run (a b : Int) (w : World) : Calls Yba.prog 19 #[.int .i64 a, .int .i64 b] w fun e w' => e = .returned (.int .i64 (sgn a b)) ∧ w' = w := by
  rcases (show a < b ∨ b < a ∨ a = b by omega) with h | h | h
  · have e : sgn a b = -1 := by simp [sgn, h]
    rw [e]
    clear e
    go_enter Yba.func19, Yba.ntmps19
    go_wp2
    go_ret
    exact ⟨rfl, rfl⟩
  · have h' : ¬ a < b := by omega
    have e : sgn a b = 1 := by simp [sgn, h, h']
    rw [e]
    clear e
    go_enter Yba.func19, Yba.ntmps19
    go_wp2
    go_ret
    exact ⟨rfl, rfl⟩
  · subst h
    have e : sgn a a = 0 := by simp [sgn]
    rw [e]
    clear e
    go_enter Yba.func19, Yba.ntmps19
    go_wp2
    go_ret
    exact ⟨rfl, rfl⟩

/-- The closure that compares a commit with a number. -/
theorem cmp_run (a t n : Int) (w : World) : Calls Yba.prog 18 #[.agg #[.int .i64 a, .int .i64 t], .int .i64 n] w fun e w' => e = .returned (.int .i64 (sgn a n)) ∧ Below w.heap.size w w' := by
  go_enter Yba.func18, Yba.ntmps18
  go_wp2_with (go_at_call 19; refine (compare_run _ _ _).mono ?_; rintro e w' ⟨rfl, rfl⟩)
  go_ret
  exact ⟨rfl, (Below.refl _ _).alloc (Nat.le_refl _) _⟩

set_option maxRecDepth 100000 in
set_option maxHeartbeats 4000000 in
/-- slices.BinarySearchFunc over a rising row of commits. -/
theorem search_run (ao : Option Addr) (len cap : Nat) (f : Nat → Int) (u : Nat → Int) (target : Int) (w : World) (hlen : len ≤ 1000000) (hrow : 0 < len → ∃ g, ao = some ⟨g, 0, none⟩ ∧ g < w.heap.size ∧ ∀ i, i < len → w.cell? ⟨g, i * 2, none⟩ = some (.int .i64 (f i)) ∧ w.cell? ⟨g, i * 2 + 1, none⟩ = some (.int .i64 (u i)))
    (hmono : ∀ i j, i ≤ j → j < len → f i ≤ f j) :
    Calls Yba.prog 17 #[.slice ao len cap, .int .i64 target, .func (Fn.func 18) #[] #[]] w fun e w' => ∃ (k : Nat) (b : Bool), e = .returned (.tuple #[.int .i64 k, .bool b]) ∧ k ≤ len ∧ (∀ i, i < k → f i < target) ∧ (∀ i, k ≤ i → i < len → target ≤ f i) ∧ Below w.heap.size w w' := by
  have HR := hid hrow
  have HM := hid hmono
  clear hrow hmono
  go_enter Yba.func17, Yba.ntmps17
  go_wp2
  go_loopw [9, 10] (fun x y wr => ∃ i j : Nat, i ≤ j ∧ j ≤ len ∧ x = .int .i64 i ∧ y = .int .i64 j ∧ Hid ((∀ k, k < i → f k < target) ∧ (∀ k, j ≤ k → k < len → target ≤ f k)) ∧ Hid (Below w.heap.size w wr)) (fun x y _ => (intOf y - intOf x).toNat)
  case atStart => exact ⟨0, len, by omega, by omega, rfl, rfl, ⟨fun k h => by omega, fun k h1 h2 => by omega⟩, Below.refl _ _⟩
  case round =>
    obtain ⟨i, j, hij, hj, rfl, rfl, HI, HB⟩ := hrel
    by_cases hlt : i < j
    · obtain ⟨g, hg, hgl, hgc⟩ := HR.out (by omega)
      subst hg
      obtain ⟨h1, h2⟩ := hgc ((i + j) / 2) (by omega)
      have k1 := (HB.out.cell (p := ⟨g, (i + j) / 2 * 2, none⟩) hgl).trans h1
      have k2 := (HB.out.cell (p := ⟨g, (i + j) / 2 * 2 + 1, none⟩) hgl).trans h2
      clear hgc h1 h2
      have hm : (i + j) / 2 < len := by omega
      obtain ⟨m, hme⟩ : ∃ m, m = (i + j) / 2 := ⟨_, rfl⟩
      have hmi : ((i : Int) + (j : Int)) / 2 = (m : Int) := by omega
      rw [← hme] at k1 k2 hm
      have HME := hid hme
      clear hme
      by_cases hf : f m < target
      · have hs : sgn (f m) target < 0 := by simp [sgn, hf]
        have HI' : Hid ((∀ k, k < m + 1 → f k < target) ∧ (∀ k, j ≤ k → k < len → target ≤ f k)) := by
          refine ⟨fun k hk => ?_, HI.out.2⟩
          have := HM.out k m (by omega) hm
          omega
        have hij' : m + 1 ≤ j := by have := HME.out; omega
        have him : i ≤ m := by have := HME.out; omega
        go_wp2_with (go_at_call 18; refine (cmp_run _ _ _ _).mono ?_; rintro e w1 ⟨rfl, hb1⟩)
        have HB1 := hid (bel2 HB.out hb1)
        clear hb1 HB
        go_roundw
        case rel => exact ⟨m + 1, j, by omega, hj, by go_num, rfl, HI', HB1⟩
        case measure => simp [intOf]; omega
      · have hs : ¬ sgn (f m) target < 0 := by
          unfold sgn
          rw [if_neg hf]
          split <;> omega
        have HI' : Hid ((∀ k, k < i → f k < target) ∧ (∀ k, m ≤ k → k < len → target ≤ f k)) := by
          refine ⟨HI.out.1, fun k h1 h2 => ?_⟩
          have := HM.out m k h1 h2
          omega
        have hij' : m < j := by have := HME.out; omega
        have him : i ≤ m := by have := HME.out; omega
        go_wp2_with (go_at_call 18; refine (cmp_run _ _ _ _).mono ?_; rintro e w1 ⟨rfl, hb1⟩)
        have HB1 := hid (bel2 HB.out hb1)
        clear hb1 HB
        go_roundw
        case rel => exact ⟨i, m, by omega, by omega, rfl, by go_num, HI', HB1⟩
        case measure => simp [intOf]; omega
    · have hij2 : i = j := by omega
      subst hij2
      by_cases hil : i < len
      · obtain ⟨g, hg, hgl, hgc⟩ := HR.out (by omega)
        subst hg
        obtain ⟨h1, h2⟩ := hgc i hil
        have k1 := (HB.out.cell (p := ⟨g, i * 2, none⟩) hgl).trans h1
        have k2 := (HB.out.cell (p := ⟨g, i * 2 + 1, none⟩) hgl).trans h2
        clear hgc h1 h2
        have hii : (i : Int) < (len : Int) := by omega
        go_wp2_with (go_at_call 18; refine (cmp_run _ _ _ _).mono ?_; rintro e w1 ⟨rfl, hb1⟩)
        have HB1 := hid (bel2 HB.out hb1)
        go_ret2
        exact ⟨i, _, rfl, hj, HI.out.1, HI.out.2, HB1.out⟩
      · have hii : ¬ (i : Int) < (len : Int) := by omega
        go_wp2
        go_ret2
        exact ⟨i, Or.inl rfl, hj, HI.out.1, HI.out.2, HB.out⟩

set_option maxRecDepth 100000 in
set_option maxHeartbeats 4000000 in
/-- slices.Equal of two slices with the same numbers. -/
theorem equal_run (a0 a1 : Option Addr) (len c0 c1 : Nat) (f : Nat → Int) (w : World) (hlen : len ≤ 1000000) (h0 : 0 < len → ∃ g, a0 = some ⟨g, 0, none⟩ ∧ ∀ i, i < len → w.cell? ⟨g, i, none⟩ = some (.int .i64 (f i))) (h1 : 0 < len → ∃ g, a1 = some ⟨g, 0, none⟩ ∧ ∀ i, i < len → w.cell? ⟨g, i, none⟩ = some (.int .i64 (f i))) :
    Calls Yba.prog 8 #[.slice a0 len c0, .slice a1 len c1] w fun e w' => e = .returned (.bool true) ∧ ∃ n, w' = w.drewN n := by
  have H0 := hid h0
  have H1 := hid h1
  clear h0 h1
  go_enter Yba.func8, Yba.ntmps8
  go_wp2
  go_loopw [13] (fun x wr => ∃ i : Nat, i ≤ len ∧ x = .int .i64 i ∧ ∃ n, wr = w.drewN n) (fun x _ => len - (intOf x).toNat)
  case atStart => exact ⟨0, by omega, rfl, 0, rfl⟩
  case round =>
    obtain ⟨i, hi, rfl, nd, rfl⟩ := hrel
    by_cases hlt : i < len
    · obtain ⟨g0, e0, k0⟩ := H0.out (by omega)
      obtain ⟨g1, e1, k1⟩ := H1.out (by omega)
      subst e0 e1
      have d0 := k0 i hlt
      have d1 := k1 i hlt
      clear k0 k1
      have hii : (i : Int) < (len : Int) := by omega
      go_wp2
      go_quiet (fail)
      go_wp2
      go_roundw
      case rel => exact ⟨i + 1, by omega, by go_num, _, rfl⟩
      case measure => simp [intOf]; omega
    · go_wp2
      go_ret
      exact ⟨rfl, nd, rfl⟩
end Go.Proofs.Ybulkiec
