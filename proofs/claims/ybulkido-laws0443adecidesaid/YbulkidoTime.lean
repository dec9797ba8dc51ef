/-
  Contracts of package time's functions on the law's road.
-/
import Derived.Test.YbulkidoRows
import Derived.Test.YbulkidoBits
import Derived.WalkKit
import Derived.ProofKit
import Derived.OpenShut
import Derived.Deep.OwnRows
import Derived.Deep.QuietTactic
import Derived.BigQuiet
import Derived.WalkLawsBesides
namespace Go.Proofs.Ybulkido
open Go.ChangeShapes Go.WideShapes Go.ChangeAt Go.RowKit

theorem nsec_any (b o : Nat) (s : Int) (w : World) (hs : 0 ≤ s) (hs' : s < 1000000000) (hc : w.cell? ⟨b, o, none⟩ = some (.int .u64 s)) :
    Calls Yba.prog 9 #[.pointer (some ⟨b, o, none⟩)] w fun e w' => e = .returned (.int .i32 s) ∧ w' = w := by
  have hb := b_mask s hs (by omega)
  go_enter Yba.func9, Yba.ntmps9
  go_wp2
  go_ret
  exact ⟨rfl, rfl⟩

theorem sec_any (b o : Nat) (s x : Int) (w : World) (hs : 0 ≤ s) (hs' : s < 1000000000) (hc : w.cell? ⟨b, o, none⟩ = some (.int .u64 s)) (hx : w.cell? ⟨b, o + 1, none⟩ = some (.int .i64 x)) :
    Calls Yba.prog 15 #[.pointer (some ⟨b, o, none⟩)] w fun e w' => e = .returned (.int .i64 x) ∧ w' = w := by
  have hb := b_neq s hs (by omega)
  go_enter Yba.func15, Yba.ntmps15
  go_wp2
  go_ret
  exact ⟨rfl, rfl⟩

/-- 'addSec' where no monotonic reading is held and the sum does not run over: 'ext' grows by d. -/
theorem addSec_any (b o : Nat) (s x d : Int) (w : World) (hs : 0 ≤ s) (hs' : s < 1000000000) (hx1 : -1000000000000 ≤ x) (hx2 : x ≤ 1000000000000) (hd1 : -1000000000000 ≤ d) (hd2 : d ≤ 1000000000000)
    (hc : w.cell? ⟨b, o, none⟩ = some (.int .u64 s)) (hx : w.cell? ⟨b, o + 1, none⟩ = some (.int .i64 x)) (hf : w.frozen? ⟨b, o + 1, none⟩ = false) :
    Calls Yba.prog 10 #[.pointer (some ⟨b, o, none⟩), .int .i64 d] w fun e w' => e = .returned (.tuple #[]) ∧ w' = w.setCell ⟨b, o + 1, none⟩ (.int .i64 (x + d)) := by
  have hb := b_neq s hs (by omega)
  by_cases h0 : 0 < d
  · have t1 : decide (x < x + d) = true := by simp; omega
    go_enter Yba.func10, Yba.ntmps10
    go_wp2
    go_end0
    exact ⟨rfl, rfl⟩
  · have t1 : decide (x < x + d) = false := by simp; omega
    have t2 : decide (0 < d) = false := by simp; omega
    go_enter Yba.func10, Yba.ntmps10
    go_wp2
    go_end0
    exact ⟨rfl, rfl⟩

theorem Yba.cells35 : Yba.prog.cellsOf 35 = 3 := by kernel_rfl

theorem quo_rem (d : Int) : ∃ q r, d.tdiv 1000000000 = q ∧ d.tmod 1000000000 = r ∧ d = 1000000000 * q + r ∧ -1000000000 < r ∧ r < 1000000000 := by
  have h := Int.mul_tdiv_add_tmod d 1000000000
  refine ⟨_, _, rfl, rfl, h.symm, ?_, ?_⟩
  · exact Int.lt_tmod_of_pos d (by omega)
  · exact Int.tmod_lt_of_pos d (by omega)

set_option maxHeartbeats 1000000 in
theorem add_core (s x d q r : Int) (w : World) (hs : 0 ≤ s) (hs' : s < 1000000000) (hx1 : -1000000 ≤ x) (hx2 : x ≤ 1000000) (_hd1 : -1000000000000 ≤ d) (_hd2 : d ≤ 1000000000000)
    (hq : d.tdiv 1000000000 = q) (hr : d.tmod 1000000000 = r) (hr1 : -1000000000 < r) (hr2 : r < 1000000000) (hq1 : -2000 ≤ q) (hq2 : q ≤ 2000) :
    Calls Yba.prog 5 #[.agg #[.int .u64 s, .int .i64 x, .pointer none], .int .i64 d] w fun e w' =>
      e = .returned (.agg #[.int .u64 ((s + r) % 1000000000), .int .i64 (x + (q + (s + r) / 1000000000)), .pointer none]) ∧ Below w.heap.size w w' := by
  have hn := b_not s hs (by omega)
  by_cases c1 : 1000000000 ≤ s + r
  · have ho := b_or (s + r - 1000000000) (by omega) (by omega)
    have hz := b_neq (s + r - 1000000000) (by omega) (by omega)
    have hfin : (s + r) % 1000000000 = s + r - 1000000000 := by omega
    have hfin2 : q + (s + r) / 1000000000 = q + 1 := by omega
    rw [hfin, hfin2]
    clear hfin hfin2
    go_enter Yba.func5, Yba.ntmps5
    go_wp2_with fail
    refine (nsec_any _ _ s _ hs hs' (by go_simp)).mono ?_
    rintro e w' ⟨rfl, rfl⟩
    go_wp2_with fail
    refine (addSec_any _ _ (s + r - 1000000000) x (q + 1) _ (by omega) (by omega) (by omega) (by omega) (by omega) (by omega) (by go_simp) (by go_simp) (by go_simp)).mono ?_
    rintro e w' ⟨rfl, rfl⟩
    go_wp2
    exact bodyPost_ret (v := .agg #[.int .u64 (s + r - 1000000000), .int .i64 (x + (q + 1)), .pointer none]) (by simp [results, Yba.results5, go_sem]) rfl ⟨rfl, ((Below.refl _ _).alloc (Nat.le_refl _) _).alloc (by simp) _⟩
  · by_cases c2 : s + r < 0
    · have ho := b_or (s + r + 1000000000) (by omega) (by omega)
      have hz := b_neq (s + r + 1000000000) (by omega) (by omega)
      have hfin : (s + r) % 1000000000 = s + r + 1000000000 := by omega
      have hfin2 : q + (s + r) / 1000000000 = q - 1 := by omega
      rw [hfin, hfin2]
      clear hfin hfin2
      go_enter Yba.func5, Yba.ntmps5
      go_wp2_with fail
      refine (nsec_any _ _ s _ hs hs' (by go_simp)).mono ?_
      rintro e w' ⟨rfl, rfl⟩
      go_wp2_with fail
      refine (addSec_any _ _ (s + r + 1000000000) x (q - 1) _ (by omega) (by omega) (by omega) (by omega) (by omega) (by omega) (by go_simp) (by go_simp) (by go_simp)).mono ?_
      rintro e w' ⟨rfl, rfl⟩
      go_wp2
      exact bodyPost_ret (v := .agg #[.int .u64 (s + r + 1000000000), .int .i64 (x + (q - 1)), .pointer none]) (by simp [results, Yba.results5, go_sem]) rfl ⟨rfl, ((Below.refl _ _).alloc (Nat.le_refl _) _).alloc (by simp) _⟩
    · have ho := b_or (s + r) (by omega) (by omega)
      have hz := b_neq (s + r) (by omega) (by omega)
      have hfin : (s + r) % 1000000000 = s + r := by omega
      have hfin2 : q + (s + r) / 1000000000 = q := by omega
      rw [hfin, hfin2]
      clear hfin hfin2
      go_enter Yba.func5, Yba.ntmps5
      go_wp2_with fail
      refine (nsec_any _ _ s _ hs hs' (by go_simp)).mono ?_
      rintro e w' ⟨rfl, rfl⟩
      go_wp2_with fail
      refine (addSec_any _ _ (s + r) x (q) _ (by omega) (by omega) (by omega) (by omega) (by omega) (by omega) (by go_simp) (by go_simp) (by go_simp)).mono ?_
      rintro e w' ⟨rfl, rfl⟩
      go_wp2
      exact bodyPost_ret (v := .agg #[.int .u64 (s + r), .int .i64 (x + (q)), .pointer none]) (by simp [results, Yba.results5, go_sem]) rfl ⟨rfl, ((Below.refl _ _).alloc (Nat.le_refl _) _).alloc (by simp) _⟩

/-- A time's nanoseconds and seconds, counted from the zero time: the time at 'a' nanoseconds is '.agg #[.int .u64 (tw a), .int .i64 (tx a), .pointer none]'. -/
def tw (a : Int) : Int := a % 1000000000
def tx (a : Int) : Int := a / 1000000000

theorem tw_bd (a : Int) : 0 ≤ tw a ∧ tw a < 1000000000 := by unfold tw; omega
theorem tx_bd (a : Int) (h1 : -100000000000 ≤ a) (h2 : a ≤ 100000000000) : -1000 ≤ tx a ∧ tx a ≤ 1000 := by unfold tx; omega

/-- (time.Time).Add. -/
theorem add_T (a d : Int) (w : World) (h1 : -100000000000 ≤ a) (h2 : a ≤ 100000000000) (h3 : -100000000000 ≤ d) (h4 : d ≤ 100000000000) :
    Calls Yba.prog 5 #[.agg #[.int .u64 (tw a), .int .i64 (tx a), .pointer none], .int .i64 d] w fun e w' =>
      e = .returned (.agg #[.int .u64 (tw (a + d)), .int .i64 (tx (a + d)), .pointer none]) ∧ Below w.heap.size w w' := by
  obtain ⟨q, r, hq, hr, hd, hr1, hr2⟩ := quo_rem d
  have b1 := tw_bd a
  have b2 := tx_bd a h1 h2
  refine (add_core (tw a) (tx a) d q r w b1.1 b1.2 (by omega) (by omega) (by omega) (by omega) hq hr hr1 hr2 (by omega) (by omega)).mono ?_
  rintro e w' ⟨rfl, hb⟩
  have e1 : (tw a + r) % 1000000000 = tw (a + d) := by unfold tw; omega
  have e2 : tx a + (q + (tw a + r) / 1000000000) = tx (a + d) := by unfold tx tw; omega
  exact ⟨by rw [e1, e2], hb⟩

theorem add_0 (d : Int) (w : World) (h3 : -100000000000 ≤ d) (h4 : d ≤ 100000000000) :
    Calls Yba.prog 5 #[.agg #[.int .u64 0, .int .i64 0, .pointer none], .int .i64 d] w fun e w' =>
      e = .returned (.agg #[.int .u64 (tw d), .int .i64 (tx d), .pointer none]) ∧ Below w.heap.size w w' := by
  refine (add_T 0 d w (by omega) (by omega) h3 h4).mono ?_
  rintro e w' ⟨rfl, hb⟩
  exact ⟨by rw [Int.zero_add], hb⟩

theorem tw_tx (a b : Int) (h1 : tw a = tw b) (h2 : tx a = tx b) : a = b := by unfold tw tx at *; omega

theorem b_and2 (s t : Int) (h0 : 0 ≤ s) (h1 : s < 1000000000) (h2 : 0 ≤ t) (h3 : t < 1000000000) : (bits .and .u64 (bits .and .u64 s t) 9223372036854775808 != 0) = false := by
  have e := u64_and s t h0 (by omega) h2 (by omega)
  have hle : s.toNat &&& t.toNat ≤ s.toNat := Nat.and_le_left
  exact b_neq _ (by omega) (by omega)

set_option maxHeartbeats 1000000 in
/-- (time.Time).Equal. -/
theorem equal_T (a b : Int) (w : World) :
    Calls Yba.prog 7 #[.agg #[.int .u64 (tw a), .int .i64 (tx a), .pointer none], .agg #[.int .u64 (tw b), .int .i64 (tx b), .pointer none]] w fun e w' =>
      e = .returned (.bool (a == b)) ∧ Below w.heap.size w w' := by
  have b1 := tw_bd a
  have b2 := tw_bd b
  have hb := b_and2 (tw a) (tw b) b1.1 b1.2 b2.1 b2.2
  by_cases c1 : tx a = tx b
  · have c1' : (tx a == tx b) = true := by simp [c1]
    have hfin : (tw a == tw b) = (a == b) := by
      by_cases c2 : a = b
      · simp [c2]
      · have : ¬ tw a = tw b := fun h => c2 (tw_tx a b h c1)
        rw [beq_eq_false_iff_ne.2 c2, beq_eq_false_iff_ne.2 this]
    have HF : Hid ((tw a == tw b) = (a == b)) := hfin
    clear hfin c1
    go_enter Yba.func7, Yba.ntmps7
    go_wp2_with fail
    refine (sec_any _ _ (tw a) (tx a) _ (by omega) (by omega) (by go_simp) (by go_simp)).mono ?_
    rintro e w' ⟨rfl, rfl⟩
    go_wp2_with fail
    refine (sec_any _ _ (tw b) (tx b) _ (by omega) (by omega) (by go_simp) (by go_simp)).mono ?_
    rintro e w' ⟨rfl, rfl⟩
    go_wp2_with fail
    refine (nsec_any _ _ (tw a) _ (by omega) (by omega) (by go_simp)).mono ?_
    rintro e w' ⟨rfl, rfl⟩
    go_wp2_with fail
    refine (nsec_any _ _ (tw b) _ (by omega) (by omega) (by go_simp)).mono ?_
    rintro e w' ⟨rfl, rfl⟩
    go_wp2
    go_ret
    exact ⟨by rw [← HF.out]; rfl, ((Below.refl _ _).alloc (Nat.le_refl _) _).alloc (by simp) _⟩
  · have c1' : (tx a == tx b) = false := by simp [c1]
    have HF : Hid ((a == b) = false) := by
      have : ¬ a = b := fun h => c1 (by rw [h])
      exact beq_eq_false_iff_ne.2 this
    clear c1
    go_enter Yba.func7, Yba.ntmps7
    go_wp2_with fail
    refine (sec_any _ _ (tw a) (tx a) _ (by omega) (by omega) (by go_simp) (by go_simp)).mono ?_
    rintro e w' ⟨rfl, rfl⟩
    go_wp2_with fail
    refine (sec_any _ _ (tw b) (tx b) _ (by omega) (by omega) (by go_simp) (by go_simp)).mono ?_
    rintro e w' ⟨rfl, rfl⟩
    go_wp2
    go_ret
    exact ⟨by rw [HF.out]; rfl, ((Below.refl _ _).alloc (Nat.le_refl _) _).alloc (by simp) _⟩

/-- (time.Time).IsZero. -/
theorem isZero_T (a : Int) (w : World) :
    Calls Yba.prog 13 #[.agg #[.int .u64 (tw a), .int .i64 (tx a), .pointer none]] w fun e w' =>
      e = .returned (.bool (a == 0)) ∧ Below w.heap.size w w' := by
  by_cases c1 : tw a = 0
  · have c1' : (tw a == 0) = true := by simp [c1]
    have HF : Hid ((tx a == 0) = (a == 0)) := by
      show _ = _
      by_cases c2 : a = 0
      · subst c2; decide
      · have : ¬ tx a = 0 := fun h => c2 (tw_tx a 0 c1 h)
        rw [beq_eq_false_iff_ne.2 c2, beq_eq_false_iff_ne.2 this]
    clear c1
    go_enter Yba.func13, Yba.ntmps13
    go_wp2
    go_ret
    exact ⟨by rw [← HF.out]; rfl, (Below.refl _ _).alloc (Nat.le_refl _) _⟩
  · have c1' : (tw a == 0) = false := by simp [c1]
    have HF : Hid ((a == 0) = false) := by
      have : ¬ a = 0 := fun h => c1 (by rw [h]; rfl)
      exact beq_eq_false_iff_ne.2 this
    clear c1
    go_enter Yba.func13, Yba.ntmps13
    go_wp2
    go_ret
    exact ⟨by rw [HF.out]; rfl, (Below.refl _ _).alloc (Nat.le_refl _) _⟩
end Go.Proofs.Ybulkido
