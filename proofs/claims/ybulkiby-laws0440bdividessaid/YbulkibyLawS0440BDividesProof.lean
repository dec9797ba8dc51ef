/-
  Rows.LawS0440BDividesSaid, proved. The frame is the program-written shell of this statement; the walk and the plain law are ours.
-/
import Derived.Test.YbulkibyGcd
import Derived.Deep.QuietTactic
import Derived.BigQuiet
import Derived.WalkKit
import Derived.ProofKit
import Derived.OpenShut
import Derived.ShutString
namespace Go.Proofs.Ybulkiby.lawS0440BDivides
open Go.ChangeShapes Go.WideShapes Go.ChangeAt Go.RowKit
open Go.ChangeMaps (open_string shut_string)
set_option linter.unusedVariables false      -- a walk need not use every 'w<i>' (that an integer argument fits its kind)

theorem own : ownKnob Yba.prog.godebug = none := by kernel_rfl

/-! ### THE PLAIN LAW -/
theorem gcdI_quot (a b : Int) (ha : 0 ≤ a) (hb : 0 ≤ b) (h : 0 < gcdI a b) : gcdI (a / gcdI a b) (b / gcdI a b) = 1 := by
  obtain ⟨m, rfl⟩ := Int.eq_ofNat_of_zero_le ha
  obtain ⟨n, rfl⟩ := Int.eq_ofNat_of_zero_le hb
  have e : gcdI (m : Int) (n : Int) = ((Nat.gcd m n : Nat) : Int) := by unfold gcdI; simp
  rw [e] at h ⊢
  have hp : 0 < Nat.gcd m n := by omega
  unfold gcdI
  rw [← Int.natCast_ediv, ← Int.natCast_ediv]
  simp only [Int.toNat_natCast]
  rw [Nat.gcd_div (Nat.gcd_dvd_left m n) (Nat.gcd_dvd_right m n), Nat.div_self hp]
  rfl

theorem gcdI_comm (a b : Int) : gcdI b a = gcdI a b := by
  unfold gcdI
  rw [Nat.gcd_comm]

theorem gcdI_le (a b B : Int) (ha : 0 ≤ a) (hb : 0 ≤ b) (h : ¬ (a = 0 ∧ b = 0)) (h1 : a ≤ B) (h2 : b ≤ B) : gcdI a b ≤ B := by
  obtain ⟨d1, d2⟩ := gcdI_dvd a b ha hb
  by_cases ha0 : a = 0
  · have := Int.le_of_dvd (by omega) d2
    omega
  · have := Int.le_of_dvd (by omega) d1
    omega

theorem gcd_at (a b r : Int) (w : World) (hr : Hid (gcdI a b = r)) (ha : 0 ≤ a) (hb : 0 ≤ b) (ha' : a ≤ 9223372036854775807) (hb' : b ≤ 9223372036854775807) :
    Calls Yba.prog 7 #[.int .i64 a, .int .i64 b] w fun e w' => e = .returned (.int .i64 r) ∧ ∃ n, w' = w.drewN n :=
  (gcd_any a b w ha hb ha' hb').mono fun _ _ ⟨he, hw⟩ => ⟨by rw [he, hr.out], hw⟩

theorem gcd_gr (a b r : Int) (w : World) (hr : Hid (gcdI a b = r)) (ha : 0 ≤ a) (hb : 0 ≤ b) (ha' : a ≤ 9223372036854775807) (hb' : b ≤ 9223372036854775807) :
    Calls Yba.prog 7 #[.int .i64 a, .int .i64 b] w fun e w' => e = .returned (.int .i64 r) ∧ Grown w w' :=
  (gcd_any a b w ha hb ha' hb').mono fun _ _ ⟨he, n, hw⟩ => ⟨by rw [he, hr.out], by rw [hw]; exact Grown.refl _⟩

/-- The way on which the two are from 0 on and not both 0. -/
theorem walk_main (a0 a1 : Int) (w : World) (q0 : 0 ≤ a0) (q1 : 0 ≤ a1) (q2 : a0 ≤ 9223372036854775807) (q3 : a1 ≤ 9223372036854775807) (z : ¬ (a0 = 0 ∧ a1 = 0)) :
    Calls Yba.prog 4 #[.int .i64 a0, .int .i64 a1] w fun e w' => e = .returned (.bool true) ∧ Grown w w' := by
  have hz : (a0 == 0) = false ∨ ((a0 == 0) = true ∧ (a1 == 0) = false) := by
    by_cases e : a0 = 0
    · right
      exact ⟨by simp [e], by simp; omega⟩
    · left
      simp [e]
  have gp := gcdI_pos a0 a1 q0 q1 z
  have gl := gcdI_le a0 a1 9223372036854775807 q0 q1 z q2 q3
  obtain ⟨d1, d2⟩ := gcdI_dvd a0 a1 q0 q1
  have m1 := Int.emod_eq_zero_of_dvd d1
  have m2 := Int.emod_eq_zero_of_dvd d2
  have h1 := gcdI_quot a0 a1 q0 q1 gp
  have hc := gcdI_comm a0 a1
  clear z d1 d2
  obtain ⟨g, hg⟩ : ∃ g, g = gcdI a0 a1 := ⟨_, rfl⟩
  have HG : Hid (gcdI a0 a1 = g) := hg.symm
  rw [← hg] at gp gl m1 m2 h1 hc
  clear hg
  have HC : Hid (gcdI a1 a0 = g) := hc
  have H1 : Hid (gcdI (a0 / g) (a1 / g) = 1) := h1
  clear hc h1
  have l0 : 0 ≤ a0 / g := Int.ediv_nonneg q0 (by omega)
  have l1 : 0 ≤ a1 / g := Int.ediv_nonneg q1 (by omega)
  have u0 : a0 / g ≤ 9223372036854775807 := Int.le_trans (Int.ediv_le_self g q0) q2
  have u1 : a1 / g ≤ 9223372036854775807 := Int.le_trans (Int.ediv_le_self g q1) q3
  have m1' : (a0 % g != 0) = false := by rw [m1]; rfl
  have m2' : (a1 % g != 0) = false := by rw [m2]; rfl
  clear m1 m2
  have hg0 : ¬ g = 0 := by omega
  have t0 : IntKind.i64.wrap (a0.tdiv g) = a0 / g := IntWalk.i64_quo a0 g ⟨q0, q2, by omega⟩
  have t1 : IntKind.i64.wrap (a1.tdiv g) = a1 / g := IntWalk.i64_quo a1 g ⟨q1, q3, by omega⟩
  rcases hz with hz | ⟨hz, hz'⟩
  all_goals
    go_enter Yba.func4, Yba.ntmps4
    go_wp2_with fail
    refine (gcd_gr _ _ _ _ HG (by omega) (by omega) (by omega) (by omega)).mono ?_
    rintro e w1 ⟨rfl, hgr⟩
    go_wp2_with fail
    go_quiet ((go_at_call 7; exact Calls.quiet_of (gcd_at _ _ _ _ H1 (by omega) (by omega) (by omega) (by omega))))
    go_wp2_with fail
    refine (gcd_at _ _ _ _ HC (by omega) (by omega) (by omega) (by omega)).mono ?_
    rintro e w' ⟨rfl, n', rfl⟩
    go_wp2
    go_ret
    exact ⟨rfl, hgr⟩

/-! ### STEP 1: THE WALK: the Go text returns true. 'Grown w w'': the world has at most new blocks (Derived/RowKit3.lean). Part the cases AHEAD of 'go_enter' where a test parts the walk; take each callee by a contract of your own. -/
theorem walk (a0 : Int) (a1 : Int) (w0 : (Lit.int .i64 a0).wf = true) (w1 : (Lit.int .i64 a1).wf = true) (w : World) :
    Calls Yba.prog 4 #[.int .i64 a0, .int .i64 a1] w fun e w' => e = .returned (.bool true) ∧ Grown w w' := by
  have b0 := bounds_i64 w0
  have b1 := bounds_i64 w1
  clear w0 w1
  by_cases o0 : a0 < 0
  · go_enter Yba.func4, Yba.ntmps4
    go_wp2
    go_ret
    exact ⟨rfl, Grown.refl _⟩
  by_cases o1 : a1 < 0
  · go_enter Yba.func4, Yba.ntmps4
    go_wp2
    go_ret
    exact ⟨rfl, Grown.refl _⟩
  have q0 : 0 ≤ a0 := by omega
  have q1 : 0 ≤ a1 := by omega
  have q2 : a0 ≤ 9223372036854775807 := by omega
  have q3 : a1 ≤ 9223372036854775807 := by omega
  clear o0 o1 b0 b1
  by_cases z : a0 = 0 ∧ a1 = 0
  · obtain ⟨rfl, rfl⟩ := z
    have g00 : gcdI 0 0 = 0 := by decide
    go_enter Yba.func4, Yba.ntmps4
    go_wp2_with (go_at_call 7; refine (gcd_any _ _ _ (by omega) (by omega) (by omega) (by omega)).mono ?_; rintro e w' ⟨rfl, n, rfl⟩)
    go_ret
    exact ⟨rfl, Grown.refl _⟩
  · exact walk_main a0 a1 w q0 q1 q2 q3 z

/-! ### THE ROW's STEP: WRITTEN OUT: LEAVE IT -/
set_option maxRecDepth 100000 in
theorem lifted (os : Os) (started : os.Started) (H : Type) (enc : TypeId × Value → H) :
    ReturnsInHanded {} Yba.checked os 4 .any (Rows.lawS0440BDividesSpec.pre6 enc Yba.prog Yba.f4 Rows.lawS0440BDividesRow.domain false) (Rows.lawS0440BDividesSpec.post enc Yba.prog Yba.f4 false true false false) := by
  refine returnsInHanded_of_change (C := Yba.checked) own started (by kernel_rfl) Yba.func4
    (ChangeSpec.witness6 (enc := enc) (C := Yba.checked) false ⟨#[], #[.int .i64 0, .int .i64 0], []⟩ 8 (by kernel_rfl) (by kernel_rfl) (by kernel_rfl) (by kernel_rfl)) ?_
  intro W base args ds gs before hval0 hW hcnd _
  have hval : ∀ (j : Nat) t v, Yba.f4.params[j]? = some t → args[j]? = some v → Value.okWide Yba.prog W .any base t v := hval0
  have hW' := hW
  obtain ⟨p, q, hA0, hV, rfl, hfz, hnd⟩ := hW
  have hA : DataW.TrodAll enc Yba.prog W 0 (fun _ => true) true Yba.f4.params.toList args.toList ds p := hA0
  rw [Yba.params4] at hA hval
  obtain ⟨v0, vs0, d0, ds0, p0, q0, hargs, rfl, rfl, h0, r0⟩ := trodAll_cons hA
  obtain ⟨v1, vs1, d1, ds1, p1, q1, rfl, rfl, rfl, h1, r1⟩ := trodAll_cons r0
  obtain ⟨rfl, rfl, rfl⟩ := trodAll_nil r1
  obtain rfl : args = #[v0, v1] := by cases args; simp_all
  obtain ⟨rfl, rfl⟩ := trodVars_none hV
  obtain ⟨a0, rfl, rfl, rfl, w0⟩ := open_int Yba.underlying2 (hval 0 2 v0 rfl rfl) h0
  obtain ⟨a1, rfl, rfl, rfl, w1⟩ := open_int Yba.underlying2 (hval 1 2 v1 rfl rfl) h1
  clear hA0 hval0
  simp only [List.append_nil] at hW'
  refine (walk a0 a1 w0 w1 W).mono fun e W' ⟨he, hg⟩ => ?_
  subst he
  exact ⟨_, rfl, post_of_same (pa := []) (pv := []) hW' (fun _ _ _ => (trodAll_cons_mk (shut_bool Yba.underlying4 _) trodAll_mk0)) (fun sp _ => (trodAll_cons_mk (shut_int Yba.underlying2 w0) (trodAll_cons_mk (shut_int Yba.underlying2 w1) trodAll_mk0))) (fun _ _ => rfl) rfl
    (hg.frame _) hg.2.1 (ok_one (by kernel_rfl) rfl (okWide_bool_mk Yba.underlying4 _))⟩

theorem over : Rows.lawS0440BDividesRow.holds Yba.pinned (OpenSpec.ofChange Rows.lawS0440BDividesSpec) :=
  OpenClaim.holds_of_wide 4 Yba.f4 rfl rfl rfl rfl rfl rfl rfl ⟨rfl, rfl, rfl, rfl, rfl⟩ rfl rfl rfl rfl rfl (by kernel_rfl) Yba.func4 (by kernel_rfl)
    (of_decide_eq_true (by kernel_rfl)) (by unfold Func.isWrapper; first | (rw [if_pos (by decide +kernel)]; kernel_rfl) | (rw [if_neg (by decide +kernel)]; exact ⟨rfl, rfl⟩))
    (fun os started H enc _ => lifted os started H enc)

/-- ████ THE STATEMENT ████ -/
theorem proved : Rows.LawS0440BDividesSaid :=
  over
end Go.Proofs.Ybulkiby.lawS0440BDivides
namespace Go.Proofs.Ybulkiby
theorem lawS0440BDivides_proved : Rows.LawS0440BDividesSaid := lawS0440BDivides.proved
end Go.Proofs.Ybulkiby
