/-
  The walk of LawS0448CTable.
-/
import Derived.Test.YbulkiggRows
import Derived.WalkKit
import Derived.ProofKit
import Derived.OpenShut
import Derived.WalkLawsBesides
import Derived.WalkSpells
namespace Go.Proofs.Ybulkigg
open Go.ChangeShapes Go.WideShapes Go.ChangeAt Go.RowKit
set_option linter.unusedVariables false

theorem grown_trans {a b c : World} (h : Grown a b) (k : Grown b c) : Grown a c :=
  ⟨World.keptBut_trans h.1 k.1, fun x => (k.2.1 x).trans (h.2.1 x), Nat.le_trans h.2.2 k.2.2⟩

/-- 'zzs0448ckind': some string. -/
theorem kind_any (a0 : Int) (a1 : ByteArray) (w : World) (h0 : 0 ≤ a0) (h1 : a0 ≤ 255) :
    Calls Yba.prog 12 #[.int .u8 a0, .string a1] w fun e w' => ∃ s, e = .returned (.string s) ∧ w' = w := by
  rcases (show a0 % 4 = 0 ∨ a0 % 4 = 1 ∨ a0 % 4 = 2 ∨ a0 % 4 = 3 by omega) with h | h | h | h
  all_goals
    go_enter Yba.func12, Yba.ntmps12
    go_wp2
    go_ret
    exact ⟨_, rfl, rfl⟩

/-- 'zzs0448cconds': nil just where the selector says so. -/
theorem conds_any (a0 : Int) (a1 : ByteArray) (w : World) (h0 : 0 ≤ a0) (h1 : a0 ≤ 255) :
    Calls Yba.prog 13 #[.int .u8 a0, .string a1] w fun e w' => ∃ ao n c, e = .returned (.slice ao n c) ∧ ((a0 % 3 == 0) = true → ao = none) ∧ ((a0 % 3 == 0) = false → ∃ x, ao = some x) ∧ Grown w w' := by
  rcases (show a0 % 3 = 0 ∨ a0 % 3 = 1 ∨ a0 % 3 = 2 by omega) with h | h | h
  · go_enter Yba.func13, Yba.ntmps13
    go_wp2
    go_ret
    exact ⟨_, _, _, rfl, fun _ => rfl, fun hf => by simp [h] at hf, Grown.refl _⟩
  · go_enter Yba.func13, Yba.ntmps13
    go_wp2
    go_ret
    exact ⟨_, _, _, rfl, fun hf => by simp [h] at hf, fun _ => ⟨_, rfl⟩, (Grown.refl _).alloc _ _⟩
  · go_enter Yba.func13, Yba.ntmps13
    go_wp2
    go_ret
    exact ⟨_, _, _, rfl, fun hf => by simp [h] at hf, fun _ => ⟨_, rfl⟩, (Grown.refl _).alloc _ _⟩

/-- Its nil way, and the other. -/
theorem conds_nil (a0 : Int) (a1 : ByteArray) (w : World) (h0 : 0 ≤ a0) (h1 : a0 ≤ 255) (hz : (a0 % 3 == 0) = true) :
    Calls Yba.prog 13 #[.int .u8 a0, .string a1] w fun e w' => ∃ n c, e = .returned (.slice none n c) ∧ Grown w w' :=
  (conds_any a0 a1 w h0 h1).mono fun e w' ⟨ao, n, c, he, h2, _, hg⟩ => ⟨n, c, by rw [he, h2 hz], hg⟩
theorem conds_some (a0 : Int) (a1 : ByteArray) (w : World) (h0 : 0 ≤ a0) (h1 : a0 ≤ 255) (hz : (a0 % 3 == 0) = false) :
    Calls Yba.prog 13 #[.int .u8 a0, .string a1] w fun e w' => ∃ x n c, e = .returned (.slice (some x) n c) ∧ Grown w w' :=
  (conds_any a0 a1 w h0 h1).mono fun e w' ⟨ao, n, c, he, _, h2, hg⟩ => by
    obtain ⟨x, rfl⟩ := h2 hz
    exact ⟨x, n, c, he, hg⟩
theorem conds_val (a0 : Int) (a1 : ByteArray) (w : World) (h0 : 0 ≤ a0) (h1 : a0 ≤ 255) :
    Calls Yba.prog 13 #[.int .u8 a0, .string a1] w fun e w' => ∃ ao n c, e = .returned (.slice ao n c) ∧ Grown w w' :=
  (conds_any a0 a1 w h0 h1).mono fun e w' ⟨ao, n, c, he, _, _, hg⟩ => ⟨ao, n, c, he, hg⟩

/-- The three ways of the two tests on the kind. -/
theorem tests (s : ByteArray) : ((s.toList == [115, 105, 103, 110, 101, 100]) = true ∧ (s.toList == [116, 101, 114, 109, 105, 110, 97, 116, 101, 100]) = false) ∨
    ((s.toList == [115, 105, 103, 110, 101, 100]) = false ∧ (s.toList == [116, 101, 114, 109, 105, 110, 97, 116, 101, 100]) = true) ∨
    ((s.toList == [115, 105, 103, 110, 101, 100]) = false ∧ (s.toList == [116, 101, 114, 109, 105, 110, 97, 116, 101, 100]) = false) := by
  cases h1 : (s.toList == [115, 105, 103, 110, 101, 100])
  · cases h2 : (s.toList == [116, 101, 114, 109, 105, 110, 97, 116, 101, 100])
    · exact .inr (.inr ⟨rfl, rfl⟩)
    · exact .inr (.inl ⟨rfl, rfl⟩)
  · left
    have e : s.toList = [115, 105, 103, 110, 101, 100] := by simpa using h1
    rw [e]
    exact ⟨rfl, by decide⟩

set_option maxRecDepth 100000 in
theorem table_main (a0 : Int) (a1 : ByteArray) (a2 a3 : Int) (a4 : ByteArray) (w : World) (l0 : 0 ≤ a0) (u0 : a0 ≤ 255) (l2 : 0 ≤ a2) (u2 : a2 ≤ 255) (l3 : 0 ≤ a3) (u3 : a3 ≤ 255) :
    Calls Yba.prog 5 #[.int .u8 a0, .string a1, .int .u8 a2, .int .u8 a3, .string a4] w fun e w' => e = .returned (.bool true) ∧ Grown w w' := by
  have hne := fun w a n c n' c' => run_neq_slice_nil_any (P := Yba.prog) w 45 61 a n c n' c' Yba.underlying45
  cases hz : (a2 % 3 == 0)
  · have hz' : (a2 % 3 != 0) = true := by rw [bne, hz]; rfl
    go_enter Yba.func5, Yba.ntmps5
    go_wp2_with fail
    refine (kind_any a0 a1 _ l0 u0).mono ?_
    rintro e w' ⟨s, rfl, rfl⟩
    go_wp2_with fail
    refine (conds_some a2 a4 _ l2 u2 hz).mono ?_
    rintro e w1 ⟨x, n, c, rfl, hg1⟩
    go_wp2_with fail
    refine (conds_val a3 a4 _ l3 u3).mono ?_
    rintro e w2 ⟨ao2, n2, c2, rfl, hg2⟩
    go_wp2_with fail
    refine (conds_val ((a3 + 1) % 256) a4 _ (by omega) (by omega)).mono ?_
    rintro e w3 ⟨ao3, n3, c3, rfl, hg3⟩
    have HG : Hid (Grown _ w3) := grown_trans (grown_trans hg1 hg2) hg3
    clear hg1 hg2 hg3
    rcases tests s with ⟨k1, k2⟩ | ⟨k1, k2⟩ | ⟨k1, k2⟩
    all_goals
      go_wp2
      go_ret
      exact ⟨rfl, HG.out.alloc _ _⟩
  · have hz' : (a2 % 3 != 0) = false := by rw [bne, hz]; rfl
    go_enter Yba.func5, Yba.ntmps5
    go_wp2_with fail
    refine (kind_any a0 a1 _ l0 u0).mono ?_
    rintro e w' ⟨s, rfl, rfl⟩
    go_wp2_with fail
    refine (conds_nil a2 a4 _ l2 u2 hz).mono ?_
    rintro e w1 ⟨n, c, rfl, hg1⟩
    go_wp2_with fail
    refine (conds_val a3 a4 _ l3 u3).mono ?_
    rintro e w2 ⟨ao2, n2, c2, rfl, hg2⟩
    go_wp2_with fail
    refine (conds_val ((a3 + 1) % 256) a4 _ (by omega) (by omega)).mono ?_
    rintro e w3 ⟨ao3, n3, c3, rfl, hg3⟩
    have HG : Hid (Grown _ w3) := grown_trans (grown_trans hg1 hg2) hg3
    clear hg1 hg2 hg3
    rcases tests s with ⟨k1, k2⟩ | ⟨k1, k2⟩ | ⟨k1, k2⟩
    all_goals
      go_wp2
      go_ret
      exact ⟨rfl, HG.out.alloc _ _⟩
end Go.Proofs.Ybulkigg
