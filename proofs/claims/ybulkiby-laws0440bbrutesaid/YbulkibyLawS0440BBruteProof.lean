/-
  Rows.LawS0440BBruteSaid, proved. The frame is the program-written shell of this statement; the walk and the plain law are ours.
-/
import Derived.Test.YbulkibyGcd
import Derived.WalkKit
import Derived.ProofKit
import Derived.OpenShut
import Derived.ShutString
namespace Go.Proofs.Ybulkiby.lawS0440BBrute
open Go.ChangeShapes Go.WideShapes Go.ChangeAt Go.RowKit
open Go.ChangeMaps (open_string shut_string)
set_option linter.unusedVariables false      -- a walk need not use every 'w<i>' (that an integer argument fits its kind)

theorem own : ownKnob Yba.prog.godebug = none := by kernel_rfl

/-- The way to the loop: the two are within 0 .. 2000 and not both 0. -/
theorem walk_loop (a0 a1 : Int) (w : World) (q0 : 0 ≤ a0) (q1 : 0 ≤ a1) (q2 : a0 ≤ 2000) (q3 : a1 ≤ 2000) (z : ¬ (a0 = 0 ∧ a1 = 0)) :
    Calls Yba.prog 3 #[.int .i64 a0, .int .i64 a1] w fun e w' => e = .returned (.bool true) ∧ Grown w w' := by
  obtain ⟨g, hg⟩ : ∃ g, g = gcdI a0 a1 := ⟨_, rfl⟩
  have HG : Hid (gcdI a0 a1 = g) := hg.symm
  clear hg
  have hz : (a0 == 0) = false ∨ ((a0 == 0) = true ∧ (a1 == 0) = false) := by
    by_cases e : a0 = 0
    · right
      exact ⟨by simp [e], by simp; omega⟩
    · left
      simp [e]
  have hm : a0 < a1 ∨ a1 ≤ a0 := by omega
  have d0 : decide (a0 < 0) = false := by simp; omega
  have d1 : decide (a1 < 0) = false := by simp; omega
  have d2 : decide (2000 < a0) = false := by simp; omega
  have d3 : decide (2000 < a1) = false := by simp; omega
  have hzz : Hid (¬ (a0 = 0 ∧ a1 = 0)) := z
  clear z
  rcases hz with hz | ⟨hz, hz'⟩ <;> rcases hm with hm | hm
  all_goals
    go_enter Yba.func3, Yba.ntmps3
    go_wp2_with (go_at_call 7; refine (gcd_any _ _ _ (by omega) (by omega) (by omega) (by omega)).mono ?_; rintro e w' ⟨rfl, n, rfl⟩; rw [HG.out])
    go_loop [7, 8] (fun x d => ∃ k y : Int, 0 ≤ k ∧ k ≤ max a0 a1 ∧ d = .int .i64 (k + 1) ∧ x = .int .i64 y ∧ Hid (Best a0 a1 k y)) (fun _ d => (max a0 a1 + 1 - intOf d).toNat)
    case atStart => exact ⟨0, 0, by omega, by omega, rfl, rfl, best_start a0 a1⟩
    case round =>
      obtain ⟨k, y, hk0, hk1, rfl, rfl, HB⟩ := hrel
      by_cases hlt : k + 1 ≤ max a0 a1
      · by_cases ea : a0 % (k + 1) = 0
        · by_cases eb : a1 % (k + 1) = 0
          · have ea' : (a0 % (k + 1) == 0) = true := by simp [ea]
            have eb' : (a1 % (k + 1) == 0) = true := by simp [eb]
            have HB' : Hid (Best a0 a1 (k + 1) (k + 1)) := best_hit hk0 ea eb
            clear ea eb
            go_wp2
            go_round
            case rel => exact ⟨k + 1, k + 1, by omega, by omega, rfl, rfl, HB'⟩
            case measure => simp [intOf]; omega
          · have ea' : (a0 % (k + 1) == 0) = true := by simp [ea]
            have eb' : (a1 % (k + 1) == 0) = false := by simp [eb]
            have HB' : Hid (Best a0 a1 (k + 1) y) := best_miss HB hk0 (fun h => eb h.2)
            clear ea eb
            go_wp2
            go_round
            case rel => exact ⟨k + 1, y, by omega, by omega, rfl, rfl, HB'⟩
            case measure => simp [intOf]; omega
        · have ea' : (a0 % (k + 1) == 0) = false := by simp [ea]
          have HB' : Hid (Best a0 a1 (k + 1) y) := best_miss HB hk0 (fun h => ea h.1)
          clear ea
          go_wp2
          go_round
          case rel => exact ⟨k + 1, y, by omega, by omega, rfl, rfl, HB'⟩
          case measure => simp [intOf]; omega
      · have hke : k = max a0 a1 := by omega
        have HY : Hid (g = y) := by
          show g = y
          rw [← HG.out]
          exact best_end q0 q1 hzz.out (by omega) (by omega) (hke ▸ HB.out)
        clear hke
        go_wp2
        go_ret
        exact ⟨by rw [HY.out]; simp, Grown.refl _⟩

/-! ### STEP 1: THE WALK: the Go text returns true. 'Grown w w'': the world has at most new blocks (Derived/RowKit3.lean). Part the cases AHEAD of 'go_enter' where a test parts the walk; take each callee by a contract of your own. -/
theorem walk (a0 : Int) (a1 : Int) (w0 : (Lit.int .i64 a0).wf = true) (w1 : (Lit.int .i64 a1).wf = true) (w : World) :
    Calls Yba.prog 3 #[.int .i64 a0, .int .i64 a1] w fun e w' => e = .returned (.bool true) ∧ Grown w w' := by
  have b0 : 0 ≤ a0 ∨ a0 < 0 := by omega
  by_cases o0 : a0 < 0
  · go_enter Yba.func3, Yba.ntmps3
    go_wp2
    go_ret
    exact ⟨rfl, Grown.refl _⟩
  by_cases o1 : a1 < 0
  · go_enter Yba.func3, Yba.ntmps3
    go_wp2
    go_ret
    exact ⟨rfl, Grown.refl _⟩
  by_cases o2 : 2000 < a0
  · go_enter Yba.func3, Yba.ntmps3
    go_wp2
    go_ret
    exact ⟨rfl, Grown.refl _⟩
  by_cases o3 : 2000 < a1
  · go_enter Yba.func3, Yba.ntmps3
    go_wp2
    go_ret
    exact ⟨rfl, Grown.refl _⟩
  clear b0 w0 w1
  have q0 : 0 ≤ a0 := by omega
  have q1 : 0 ≤ a1 := by omega
  have q2 : a0 ≤ 2000 := by omega
  have q3 : a1 ≤ 2000 := by omega
  clear o0 o1 o2 o3
  by_cases z : a0 = 0 ∧ a1 = 0
  · obtain ⟨rfl, rfl⟩ := z
    have g00 : gcdI 0 0 = 0 := by decide
    go_enter Yba.func3, Yba.ntmps3
    go_wp2_with (go_at_call 7; refine (gcd_any _ _ _ (by omega) (by omega) (by omega) (by omega)).mono ?_; rintro e w' ⟨rfl, n, rfl⟩)
    go_ret
    exact ⟨rfl, Grown.refl _⟩
  · exact walk_loop a0 a1 w q0 q1 q2 q3 z

/-! ### THE ROW's STEP: WRITTEN OUT: LEAVE IT -/
set_option maxRecDepth 100000 in
theorem lifted (os : Os) (started : os.Started) (H : Type) (enc : TypeId × Value → H) :
    ReturnsInHanded {} Yba.checked os 3 .any (Rows.lawS0440BBruteSpec.pre6 enc Yba.prog Yba.f3 Rows.lawS0440BBruteRow.domain false) (Rows.lawS0440BBruteSpec.post enc Yba.prog Yba.f3 false true false false) := by
  refine returnsInHanded_of_change (C := Yba.checked) own started (by kernel_rfl) Yba.func3
    (ChangeSpec.witness6 (enc := enc) (C := Yba.checked) false ⟨#[], #[.int .i64 0, .int .i64 0], []⟩ 8 (by kernel_rfl) (by kernel_rfl) (by kernel_rfl) (by kernel_rfl)) ?_
  intro W base args ds gs before hval0 hW hcnd _
  have hval : ∀ (j : Nat) t v, Yba.f3.params[j]? = some t → args[j]? = some v → Value.okWide Yba.prog W .any base t v := hval0
  have hW' := hW
  obtain ⟨p, q, hA0, hV, rfl, hfz, hnd⟩ := hW
  have hA : DataW.TrodAll enc Yba.prog W 0 (fun _ => true) true Yba.f3.params.toList args.toList ds p := hA0
  rw [Yba.params3] at hA hval
  obtain ⟨v0, vs0, d0, ds0, p0, q0, hargs, rfl, rfl, h0, r0⟩ := trodAll_cons hA
  obtain ⟨v1, vs1, d1, ds1, p1, q1, rfl, rfl, rfl, h1, r1⟩ := trodAll_cons r0
  obtain ⟨rfl, rfl, rfl⟩ := trodAll_nil r1
  obtain rfl : args = #[v0, v1] := by cases args; simp_all
  obtain ⟨rfl, rfl⟩ := trodVars_none hV
  obtain ⟨a0, rfl, rfl, rfl, w0⟩ := open_int Yba.underlying2 (hval 0 2 v0 rfl rfl) h0
  obtain ⟨a1, rfl, rfl, rfl, w1⟩ := open_int Yba.underlying2 (hval 1 2 v1 rfl rfl) h1
  clear hA0 hval0
  simp only [List.append_nil] at hW'
  refine (walk a0 a1 w0 w1 W).mono fun e W' ⟨he, hg⟩ => ?_
  subst he
  exact ⟨_, rfl, post_of_same (pa := []) (pv := []) hW' (fun _ _ _ => (trodAll_cons_mk (shut_bool Yba.underlying4 _) trodAll_mk0)) (fun sp _ => (trodAll_cons_mk (shut_int Yba.underlying2 w0) (trodAll_cons_mk (shut_int Yba.underlying2 w1) trodAll_mk0))) (fun _ _ => rfl) rfl
    (hg.frame _) hg.2.1 (ok_one (by kernel_rfl) rfl (okWide_bool_mk Yba.underlying4 _))⟩

theorem over : Rows.lawS0440BBruteRow.holds Yba.pinned (OpenSpec.ofChange Rows.lawS0440BBruteSpec) :=
  OpenClaim.holds_of_wide 3 Yba.f3 rfl rfl rfl rfl rfl rfl rfl ⟨rfl, rfl, rfl, rfl, rfl⟩ rfl rfl rfl rfl rfl (by kernel_rfl) Yba.func3 (by kernel_rfl)
    (of_decide_eq_true (by kernel_rfl)) (by unfold Func.isWrapper; first | (rw [if_pos (by decide +kernel)]; kernel_rfl) | (rw [if_neg (by decide +kernel)]; exact ⟨rfl, rfl⟩))
    (fun os started H enc _ => lifted os started H enc)

/-- ████ THE STATEMENT ████ -/
theorem proved : Rows.LawS0440BBruteSaid :=
  over
end Go.Proofs.Ybulkiby.lawS0440BBrute
namespace Go.Proofs.Ybulkiby
theorem lawS0440BBrute_proved : Rows.LawS0440BBruteSaid := lawS0440BBrute.proved
end Go.Proofs.Ybulkiby
