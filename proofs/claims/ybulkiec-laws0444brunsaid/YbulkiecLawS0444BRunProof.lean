/-
  Rows.LawS0444BRunSaid, proved. The frame is after the guide's shell for a law over slices, turned to this law's parameter; the walk and the contracts are ours.
-/
import Derived.Test.YbulkiecOps
import Derived.Test.YbulkiecLaw
import Derived.Deep.Grids
import Derived.WalkKit
import Derived.ProofKit
import Derived.OpenShut
import Derived.ShutString
import Derived.ChangeOld
import Derived.Below
namespace Go.Proofs.Ybulkiec.lawS0444BRun
open Go.ChangeShapes Go.WideShapes Go.ChangeAt Go.RowKit
set_option linter.unusedVariables false

attribute [local go_sem ↓] Go.wp_at_zero Go.wp_at_succ

theorem own : ownKnob Yba.prog.godebug = none := by kernel_rfl
theorem laidOut : laidOutB Yba.prog = true := by kernel_rfl

/-! ### STEP 1: THE WALK -/
set_option maxRecDepth 100000 in
set_option maxHeartbeats 4000000 in
theorem walk (a0 : Option Addr) (len0 cap0 : Nat) (T A X : Nat → Int) (w : World) (hin : 0 < len0 → ∃ b off, a0 = some ⟨b, off, none⟩ ∧ b < w.heap.size ∧ ∀ j, j < len0 → w.cell? ⟨b, off + j * 3, none⟩ = some (.int .u8 (T j)) ∧ w.cell? ⟨b, off + j * 3 + 1, none⟩ = some (.int .u8 (A j)) ∧ w.cell? ⟨b, off + j * 3 + 2, none⟩ = some (.int .u8 (X j)))
    (hby : ∀ j, j < len0 → (0 ≤ T j ∧ T j ≤ 255) ∧ (0 ≤ A j ∧ A j ≤ 255) ∧ (0 ≤ X j ∧ X j ≤ 255)) :
    Calls Yba.prog 3 #[.slice a0 len0 cap0] w fun e w' => e = .returned (.bool true) ∧ Below w.heap.size w w' := by
  by_cases hl : len0 ≤ 300
  · exact law_small a0 len0 cap0 T A X w hl hin hby
  · have hgt : (300 : Int) < (len0 : Int) := by omega
    clear hin hby
    go_enter Yba.func3, Yba.ntmps3
    go_wp2
    go_ret
    exact ⟨rfl, Below.refl _ _⟩

/-! ### THE ROW's STEP -/
set_option maxRecDepth 100000 in
theorem lifted (os : Os) (started : os.Started) (H : Type) (enc : TypeId × Value → H) :
    ReturnsInHanded {} Yba.checked os 3 .any (Rows.lawS0444BRunSpec.pre6 enc Yba.prog Yba.f3 Rows.lawS0444BRunRow.domain false) (Rows.lawS0444BRunSpec.post enc Yba.prog Yba.f3 false true false false) := by
  refine returnsInHanded_of_change (C := Yba.checked) own started (by kernel_rfl) Yba.func3
    (ChangeSpec.witness6 (enc := enc) (C := Yba.checked) false ⟨#[], #[.slice none 0 0], []⟩ 8 (by kernel_rfl) (by kernel_rfl) (by kernel_rfl) (by kernel_rfl)) ?_
  intro W base args ds gs before hval0 hW hcnd _
  have hval : ∀ (j : Nat) t v, Yba.f3.params[j]? = some t → args[j]? = some v → Value.okWide Yba.prog W .any base t v := hval0
  have hW' := hW
  obtain ⟨p, q, hA0, hV, rfl, hfz, hnd⟩ := hW
  have hA : DataW.TrodAll enc Yba.prog W 0 (fun _ => true) true Yba.f3.params.toList args.toList ds p := hA0
  rw [Yba.params3] at hA hval
  obtain ⟨v0, vs0, d0, ds0, p0, q0, hargs, rfl, rfl, h0, r0⟩ := trodAll_cons hA
  obtain ⟨rfl, rfl, rfl⟩ := trodAll_nil r0
  obtain rfl : args = #[v0] := by cases args; simp_all
  obtain ⟨rfl, rfl⟩ := trodVars_none hV
  obtain ⟨a0, len0, cap0, rfl⟩ := okWide_slice Yba.underlying22 (hval 0 22 v0 rfl rfl)
  have k0 := h0
  have lt0 : ∀ x ∈ p0, x.block < W.heap.size := by obtain ⟨m, hm⟩ := k0; exact DataW.trod_lt m _ _ _ hm
  obtain ⟨T, A, X, hin, hby⟩ : ∃ T A X : Nat → Int, (0 < len0 → ∃ b off, a0 = some ⟨b, off, none⟩ ∧ b < W.heap.size ∧ ∀ j, j < len0 → W.cell? ⟨b, off + j * 3, none⟩ = some (.int .u8 (T j)) ∧ W.cell? ⟨b, off + j * 3 + 1, none⟩ = some (.int .u8 (A j)) ∧ W.cell? ⟨b, off + j * 3 + 2, none⟩ = some (.int .u8 (X j))) ∧
      ∀ j, j < len0 → (0 ≤ T j ∧ T j ≤ 255) ∧ (0 ≤ A j ∧ A j ≤ 255) ∧ (0 ≤ X j ∧ X j ≤ 255) := by
    obtain ⟨fuel, hf⟩ := h0
    exact open_ops hf
  clear hA0 hval0
  refine (walk a0 len0 cap0 T A X W hin hby).mono fun e W' ⟨he, bel⟩ => ?_
  subst he
  exact ⟨_, rfl, _, _, _, [], _, [], hW', trodAll_mk1 (shut_bool Yba.underlying4 _), (trodAll_cons_mk (Below.trod laidOut (by kernel_rfl) (of_decide_eq_true (by kernel_rfl)) k0 bel lt0) trodAll_mk0), rfl, bel.frame _, fun h => by cases h⟩

theorem over : Rows.lawS0444BRunRow.holds Yba.pinned (OpenSpec.ofChange Rows.lawS0444BRunSpec) :=
  OpenClaim.holds_of_wide 3 Yba.f3 rfl rfl rfl rfl rfl rfl rfl ⟨rfl, rfl, rfl, rfl, rfl⟩ rfl rfl rfl rfl rfl (by kernel_rfl) Yba.func3 (by kernel_rfl)
    (of_decide_eq_true (by kernel_rfl)) (by unfold Func.isWrapper; first | (rw [if_pos (by decide +kernel)]; kernel_rfl) | (rw [if_neg (by decide +kernel)]; exact ⟨rfl, rfl⟩))
    (fun os started H enc _ => lifted os started H enc)

/-- THE STATEMENT -/
theorem proved : Rows.LawS0444BRunSaid := over
end Go.Proofs.Ybulkiec.lawS0444BRun
namespace Go.Proofs.Ybulkiec
theorem lawS0444BRun_proved : Rows.LawS0444BRunSaid := lawS0444BRun.proved
end Go.Proofs.Ybulkiec
