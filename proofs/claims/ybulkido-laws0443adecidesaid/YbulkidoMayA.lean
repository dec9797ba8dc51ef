/-
  (*Node).mayTakePart: the ways that do not ask the clock.
-/
import Derived.Test.YbulkidoMay
namespace Go.Proofs.Ybulkido
open Go.ChangeShapes Go.WideShapes Go.ChangeAt Go.RowKit Go.Maps
set_option linter.unusedVariables false

set_option maxRecDepth 100000 in
set_option maxHeartbeats 1000000 in
/-- Too few have answered. -/
theorem may_few (nb rb bc b0 b1 B n : Nat) (rs : Nat → Bool) (N F K turn qq q ca c0 c1 : Int) (w : World) (hn : n ≤ 1024) (hst : Stat w B n rs) (he : Env w nb rb bc b0 b1 B n rs N F K turn qq q ca c0 c1)
    (hF0 : 0 ≤ F) (hF1 : F ≤ 255) (hK0 : 0 ≤ K) (hK1 : K ≤ 255) (hN0 : -128 ≤ N) (hN1 : N ≤ 127) (hq : ((runs n rs : Nat) : Int) < qq) (h1 : (n : Int) < qq) :
    Calls Yba.prog 6 #[.pointer (some ⟨nb, 0, none⟩), .pointer (some ⟨rb, 0, none⟩)] w fun e w' => e = .returned (.bool false) ∧ Below w.heap.size w w' := by
  have hrl : ((runs n rs : Nat) : Int) ≤ (n : Int) := by have := runs_le n rs; omega
  have hr0 : (0 : Int) ≤ ((runs n rs : Nat) : Int) := by omega
  have d1 : decide ((n : Int) < qq) = true := by simpa using h1
  go_enter Yba.func6, Yba.ntmps6
  go_wp2_with fail
  refine (running_any rb B n rs _ hn he.r0 hst).mono ?_
  rintro e w1 ⟨rfl, hb⟩
  have HB : Hid (Below w.heap.size w w1) := hb
  have hlen := stat_len hst hb
  have hlen0 := fun ty => stat_len hst hb ty 0
  simp only [World.drewN_zero] at hlen0
  obtain ⟨e1, e2, e3, e4, e50, e51, r0, r8, r9, r10, g8, g9, g10, k0, f0, k1, k2⟩ := he.below hb
  clear hb hst he e4 e50 r8 r9 r10 g8 g9 g10 k0 f0 k1 k2
  generalize ((runs n rs : Nat) : Int) = R at *
  go_wp2
  go_quiet (fail)
  go_wp2
  go_ret
  exact ⟨rfl, by repeat (first | exact HB.out | refine below_drewN ?_ _)⟩

set_option maxRecDepth 100000 in
set_option maxHeartbeats 1000000 in
/-- Too few are restarting. -/
theorem may_few2 (nb rb bc b0 b1 B n : Nat) (rs : Nat → Bool) (N F K turn qq q ca c0 c1 : Int) (w : World) (hn : n ≤ 1024) (hst : Stat w B n rs) (he : Env w nb rb bc b0 b1 B n rs N F K turn qq q ca c0 c1)
    (hF0 : 0 ≤ F) (hF1 : F ≤ 255) (hK0 : 0 ≤ K) (hK1 : K ≤ 255) (hN0 : -128 ≤ N) (hN1 : N ≤ 127) (hq : ((runs n rs : Nat) : Int) < qq) (h1 : ¬ (n : Int) < qq) (h2 : (n : Int) - (runs n rs : Nat) < F + K) :
    Calls Yba.prog 6 #[.pointer (some ⟨nb, 0, none⟩), .pointer (some ⟨rb, 0, none⟩)] w fun e w' => e = .returned (.bool false) ∧ Below w.heap.size w w' := by
  have hrl : ((runs n rs : Nat) : Int) ≤ (n : Int) := by have := runs_le n rs; omega
  have hr0 : (0 : Int) ≤ ((runs n rs : Nat) : Int) := by omega
  have d1 : decide ((n : Int) < qq) = false := by simpa using h1
  go_enter Yba.func6, Yba.ntmps6
  go_wp2_with fail
  refine (running_any rb B n rs _ hn he.r0 hst).mono ?_
  rintro e w1 ⟨rfl, hb⟩
  have HB : Hid (Below w.heap.size w w1) := hb
  have hlen := stat_len hst hb
  have hlen0 := fun ty => stat_len hst hb ty 0
  simp only [World.drewN_zero] at hlen0
  obtain ⟨e1, e2, e3, e4, e50, e51, r0, r8, r9, r10, g8, g9, g10, k0, f0, k1, k2⟩ := he.below hb
  clear hb hst he e4 e50 r8 r9 r10 g8 g9 g10 k0 f0 k1 k2
  generalize ((runs n rs : Nat) : Int) = R at *
  go_wp2
  go_quiet (fail)
  go_wp2
  go_ret
  exact ⟨rfl, by repeat (first | exact HB.out | refine below_drewN ?_ _)⟩

set_option maxRecDepth 100000 in
set_option maxHeartbeats 1000000 in
/-- One is running. -/
theorem may_one (nb rb bc b0 b1 B n : Nat) (rs : Nat → Bool) (N F K turn qq q ca c0 c1 : Int) (w : World) (hn : n ≤ 1024) (hst : Stat w B n rs) (he : Env w nb rb bc b0 b1 B n rs N F K turn qq q ca c0 c1)
    (hF0 : 0 ≤ F) (hF1 : F ≤ 255) (hK0 : 0 ≤ K) (hK1 : K ≤ 255) (hN0 : -128 ≤ N) (hN1 : N ≤ 127) (hq : ((runs n rs : Nat) : Int) < qq) (h1 : ¬ (n : Int) < qq) (h2 : ¬ (n : Int) - (runs n rs : Nat) < F + K) (h3 : (0 : Int) < (runs n rs : Nat)) :
    Calls Yba.prog 6 #[.pointer (some ⟨nb, 0, none⟩), .pointer (some ⟨rb, 0, none⟩)] w fun e w' => e = .returned (.bool true) ∧ Below w.heap.size w w' := by
  have hrl : ((runs n rs : Nat) : Int) ≤ (n : Int) := by have := runs_le n rs; omega
  have hr0 : (0 : Int) ≤ ((runs n rs : Nat) : Int) := by omega
  have d1 : decide ((n : Int) < qq) = false := by simpa using h1
  have d3 : decide ((0 : Int) < (runs n rs : Nat)) = true := by simpa using h3
  go_enter Yba.func6, Yba.ntmps6
  go_wp2_with fail
  refine (running_any rb B n rs _ hn he.r0 hst).mono ?_
  rintro e w1 ⟨rfl, hb⟩
  have HB : Hid (Below w.heap.size w w1) := hb
  have hlen := stat_len hst hb
  have hlen0 := fun ty => stat_len hst hb ty 0
  simp only [World.drewN_zero] at hlen0
  obtain ⟨e1, e2, e3, e4, e50, e51, r0, r8, r9, r10, g8, g9, g10, k0, f0, k1, k2⟩ := he.below hb
  clear hb hst he e4 e50 r8 r9 r10 g8 g9 g10 k0 f0 k1 k2
  generalize ((runs n rs : Nat) : Int) = R at *
  go_wp2
  go_quiet (fail)
  go_wp2
  go_quiet (fail)
  go_wp2
  go_ret
  exact ⟨rfl, by repeat (first | exact HB.out | refine below_drewN ?_ _)⟩

set_option maxRecDepth 100000 in
set_option maxHeartbeats 1000000 in
/-- All others have answered. -/
theorem may_all (nb rb bc b0 b1 B n : Nat) (rs : Nat → Bool) (N F K turn qq q ca c0 c1 : Int) (w : World) (hn : n ≤ 1024) (hst : Stat w B n rs) (he : Env w nb rb bc b0 b1 B n rs N F K turn qq q ca c0 c1)
    (hF0 : 0 ≤ F) (hF1 : F ≤ 255) (hK0 : 0 ≤ K) (hK1 : K ≤ 255) (hN0 : -128 ≤ N) (hN1 : N ≤ 127) (hq : ((runs n rs : Nat) : Int) < qq) (h1 : ¬ (n : Int) < qq) (h2 : ¬ (n : Int) - (runs n rs : Nat) < F + K) (h3 : ¬ (0 : Int) < (runs n rs : Nat)) (h4 : ((n : Int) == N - 1) = true) :
    Calls Yba.prog 6 #[.pointer (some ⟨nb, 0, none⟩), .pointer (some ⟨rb, 0, none⟩)] w fun e w' => e = .returned (.bool true) ∧ Below w.heap.size w w' := by
  have hrl : ((runs n rs : Nat) : Int) ≤ (n : Int) := by have := runs_le n rs; omega
  have hr0 : (0 : Int) ≤ ((runs n rs : Nat) : Int) := by omega
  have d1 : decide ((n : Int) < qq) = false := by simpa using h1
  have d3 : decide ((0 : Int) < (runs n rs : Nat)) = false := decide_eq_false h3
  go_enter Yba.func6, Yba.ntmps6
  go_wp2_with fail
  refine (running_any rb B n rs _ hn he.r0 hst).mono ?_
  rintro e w1 ⟨rfl, hb⟩
  have HB : Hid (Below w.heap.size w w1) := hb
  have hlen := stat_len hst hb
  have hlen0 := fun ty => stat_len hst hb ty 0
  simp only [World.drewN_zero] at hlen0
  obtain ⟨e1, e2, e3, e4, e50, e51, r0, r8, r9, r10, g8, g9, g10, k0, f0, k1, k2⟩ := he.below hb
  clear hb hst he e4 e50 r8 r9 r10 g8 g9 g10 k0 f0 k1 k2
  generalize ((runs n rs : Nat) : Int) = R at *
  go_wp2
  go_quiet (fail)
  go_wp2
  go_quiet (fail)
  go_wp2
  go_ret
  exact ⟨rfl, by repeat (first | exact HB.out | refine below_drewN ?_ _)⟩
end Go.Proofs.Ybulkido
