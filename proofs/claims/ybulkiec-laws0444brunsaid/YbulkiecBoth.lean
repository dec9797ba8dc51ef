/-
  LawS0444BRun: both memories at the second loop's start.
-/
import Derived.Test.YbulkiecOpen
namespace Go.Proofs.Ybulkiec
open Go.ChangeShapes Go.WideShapes Go.ChangeAt Go.RowKit
set_option linter.unusedVariables false

def s0 : St := { ev := [], commits := 0, began := fun _ => -1, reads := fun _ => [], ws := fun _ => [], wr := fun _ => [], ended := fun _ => false, victim := fun _ => false, victims := [] }
def nilW : Nat → List (Nat × Nat) := fun _ => []
def nilV : Nat → Value := fun _ => .slice none 0 0

theorem rows3 (w : World) (v : Value) (t : TypeId) (b : Nat) (hb : w.heap.size = b) : (w.alloc (Obj.cells #[v, v, v] t)).rowIs b t 3 (fun _ => v) := by
  subst hb
  exact World.rowIs_alloc w #[v, v, v] t (fun _ => v) (fun i hi => by
    match i, hi with
    | 0, _ => rfl
    | 1, _ => rfl
    | 2, _ => rfl
    | k + 3, h => exact absurd h (by simp))

theorem con_s0 (j : Nat) : conL s0 j = 0 ∧ conC s0 j = [] := by
  unfold conL conC s0
  constructor
  · repeat (first | rfl | split)
  · repeat (first | rfl | split)

theorem bank_s0 (tw : TypeId) (w : World) (base : Nat) : Bank tw w base nilV (conL s0) (conC s0) :=
  ⟨fun j _ => by rw [(con_s0 j).1, (con_s0 j).2]; exact World.ownsRow_nil _ _ _ _, fun i j _ _ _ => .inl rfl⟩

theorem inv_s0 (E : Env) : Inv E 0 s0 := by
  refine ⟨?_, ?_, ?_, ?_, ?_, ?_, ?_, ?_, ?_, ?_, ?_⟩ <;> simp [s0]
theorem wr_s0 : WR 0 s0 nilW := ⟨fun _ _ => rfl, fun _ => Nat.le_refl _, fun _ _ h => by cases h⟩
theorem with_s0 : withW s0 nilW = s0 := rfl

set_option maxHeartbeats 1000000 in
theorem start_both {w w1 : World} {N n b1 b4 b5 b6 b7 b8 be bv : Nat} {T A X : Nat → Int} (hl : Lay (envOf N n be bv T A X)) (e1 : b1 = N + 1) (e4 : b4 = N + 4) (e5 : b5 = N + 5) (e6 : b6 = N + 6) (e7 : b7 = N + 7) (e8 : b8 = N + 8)
    (h : P0 w w1 (envOf N n be bv T A X) (f24 (envOf N n be bv T A X)) ∧ w1.rowIs be 4 3 (fun _ => .bool false) ∧ w1.rowIs bv 4 3 (fun _ => .bool false) ∧ w1.heap.size = N + 11) {W : World}
    (hW : W = (((((((((((((w1.setCell { block := b8, off := 17 } (Value.slice (some { block := w1.heap.size, off := 0 }) 3 3)).setCell { block := b8, off := 18 } (Value.slice (some { block := w1.heap.size + 1, off := 0 }) 3 3)).setCell
        { block := b8, off := 19 } (Value.slice (some { block := w1.heap.size + 1 + 1, off := 0 }) 3 3)).setCell { block := b8, off := 16 } (Value.slice (some { block := w1.heap.size + 1 + 1 + 1, off := 0 }) 3 3)).alloc
        (Obj.cells #[Value.slice none 0 0, Value.slice none 0 0, Value.slice none 0 0] 28)).alloc (Obj.cells #[Value.slice none 0 0, Value.slice none 0 0, Value.slice none 0 0] 28)).alloc
        (Obj.cells #[Value.slice none 0 0, Value.slice none 0 0, Value.slice none 0 0] 80)).alloc (Obj.cells #[Value.int IntKind.i64 (-1), Value.int IntKind.i64 (-1), Value.int IntKind.i64 (-1)] 3)).alloc
        (Obj.cells #[Value.int IntKind.i64 (-1), Value.int IntKind.i64 (-1), Value.int IntKind.i64 (-1)] 61)).alloc (Obj.cells #[Value.slice none 0 0, Value.slice none 0 0, Value.slice none 0 0] 62)).alloc
        (Obj.cells #[Value.slice none 0 0, Value.slice none 0 0, Value.slice none 0 0] 62)).alloc (Obj.cells #[Value.slice none 0 0, Value.slice none 0 0, Value.slice none 0 0] 64)).alloc
        (Obj.cells #[Value.bool false, Value.bool false, Value.bool false] 65)).alloc (Obj.cells #[Value.bool false, Value.bool false, Value.bool false] 65)) :
    ∃ E F, n = E.n ∧ N = E.bn ∧ b1 = E.bi ∧ b4 = E.bs ∧ b5 = E.bt ∧ b6 = E.bit ∧ b7 = E.bg ∧ b8 = E.br ∧ w1.heap.size + 1 + 1 + 1 + 1 = F.mb ∧ w1.heap.size + 1 + 1 + 1 + 1 + 1 = F.mr ∧ w1.heap.size + 1 + 1 + 1 + 1 + 1 + 1 = F.ms ∧ w1.heap.size + 1 + 1 + 1 + 1 + 1 + 1 + 1 = F.mw ∧
      w1.heap.size + 1 + 1 + 1 + 1 + 1 + 1 + 1 + 1 = F.mv ∧ w1.heap.size + 1 + 1 + 1 + 1 + 1 + 1 + 1 + 1 + 1 = F.me ∧ Lay E ∧ MLay E F ∧ Both W E F s0 (withW s0 nilW) nilV nilV ∧ Below E.bn w W := by
  obtain ⟨h0, hbe, hbv, hz⟩ := h
  subst e1 e4 e5 e6 e7 e8
  have hm := menvOf_lay N n be bv T A X
  refine ⟨envOf N n be bv T A X, menvOf N, rfl, rfl, rfl, rfl, rfl, rfl, rfl, rfl, by rw [hz]; rfl, by rw [hz]; rfl, by rw [hz]; rfl, by rw [hz]; rfl, by rw [hz]; rfl, by rw [hz]; rfl, hl, hm, ?_, ?_⟩
  all_goals
    obtain ⟨E, hE⟩ : ∃ E, E = envOf N n be bv T A X := ⟨_, rfl⟩
    have hN : E.bn ≤ E.br := by rw [hE]; show N ≤ N + 8; omega
    have q0 : E.bn = N := by rw [hE]; rfl
    have q8 : N + 8 = E.br := by rw [hE]; rfl
    have qe : E.be = be := by rw [hE]; rfl
    have qv : E.bv = bv := by rw [hE]; rfl
    rw [← hE] at hl h0 hm ⊢
    have p := (((h0.set hl hN 17 (Value.slice (some { block := w1.heap.size, off := 0 }) 3 3)).set hl hN 18 (Value.slice (some { block := w1.heap.size + 1, off := 0 }) 3 3)).set hl hN 19 (Value.slice (some { block := w1.heap.size + 1 + 1, off := 0 }) 3 3)).set hl hN 16 (Value.slice (some { block := w1.heap.size + 1 + 1 + 1, off := 0 }) 3 3)
    rw [← q8] at p
    have hk : Kept (fun b => b = N + 8) w1 ((((w1.setCell { block := N + 8, off := 17 } (Value.slice (some { block := w1.heap.size, off := 0 }) 3 3)).setCell { block := N + 8, off := 18 } (Value.slice (some { block := w1.heap.size + 1, off := 0 }) 3 3)).setCell
        { block := N + 8, off := 19 } (Value.slice (some { block := w1.heap.size + 1 + 1, off := 0 }) 3 3)).setCell { block := N + 8, off := 16 } (Value.slice (some { block := w1.heap.size + 1 + 1 + 1, off := 0 }) 3 3)) :=
      ((((Kept.refl _ w1).trans (Kept.setCell (p := fun b => b = N + 8) rfl _)).trans (Kept.setCell (p := fun b => b = N + 8) rfl _)).trans (Kept.setCell (p := fun b => b = N + 8) rfl _)).trans (Kept.setCell (p := fun b => b = N + 8) rfl _)
    have l8 : E.br < E.be := hl.l8
    have l9 : E.br < E.bv := hl.l9
    have rbe := rowIs_keep hbe hk (by show ¬ _ = _; omega)
    have rbv := rowIs_keep hbv hk (by show ¬ _ = _; omega)
    have hz2 : ((((w1.setCell { block := N + 8, off := 17 } (Value.slice (some { block := w1.heap.size, off := 0 }) 3 3)).setCell { block := N + 8, off := 18 } (Value.slice (some { block := w1.heap.size + 1, off := 0 }) 3 3)).setCell
        { block := N + 8, off := 19 } (Value.slice (some { block := w1.heap.size + 1 + 1, off := 0 }) 3 3)).setCell { block := N + 8, off := 16 } (Value.slice (some { block := w1.heap.size + 1 + 1 + 1, off := 0 }) 3 3)).heap.size = N + 11 := by simp [hz]
    have pr : ((((w1.setCell { block := N + 8, off := 17 } (Value.slice (some { block := w1.heap.size, off := 0 }) 3 3)).setCell { block := N + 8, off := 18 } (Value.slice (some { block := w1.heap.size + 1, off := 0 }) 3 3)).setCell
        { block := N + 8, off := 19 } (Value.slice (some { block := w1.heap.size + 1 + 1, off := 0 }) 3 3)).setCell { block := N + 8, off := 16 } (Value.slice (some { block := w1.heap.size + 1 + 1 + 1, off := 0 }) 3 3)).rowIs E.br 56 20 (rcell E 0 (.slice none 0 0)) := by
      refine p.r.congr (fun i hi => ?_)
      rw [hE, hz]
      match i, hi with
      | 0, _ => rfl
      | 1, _ => rfl
      | 2, _ => rfl
      | 3, _ => rfl
      | 4, _ => rfl
      | 5, _ => rfl
      | 6, _ => rfl
      | 7, _ => rfl
      | 8, _ => rfl
      | 9, _ => rfl
      | 10, _ => rfl
      | 11, _ => rfl
      | 12, _ => rfl
      | 13, _ => rfl
      | 14, _ => rfl
      | 15, _ => rfl
      | 16, _ => rfl
      | 17, _ => rfl
      | 18, _ => rfl
      | 19, _ => rfl
      | k + 20, h => exact absurd h (by simp)
    replace p := (⟨p.bel, p.st, p.got, pr⟩ : P0 w _ E (rcell E 0 (.slice none 0 0)))
    clear pr hk hbe hbv h0 l8 l9
    generalize ((((w1.setCell { block := N + 8, off := 17 } (Value.slice (some { block := w1.heap.size, off := 0 }) 3 3)).setCell { block := N + 8, off := 18 } (Value.slice (some { block := w1.heap.size + 1, off := 0 }) 3 3)).setCell
        { block := N + 8, off := 19 } (Value.slice (some { block := w1.heap.size + 1 + 1, off := 0 }) 3 3)).setCell { block := N + 8, off := 16 } (Value.slice (some { block := w1.heap.size + 1 + 1 + 1, off := 0 }) 3 3)) = x at *
    have hkx : Kept (fun _ => False) x W := by
      rw [hW]
      exact ((((((((((Kept.refl _ x).alloc _).alloc _).alloc _).alloc _).alloc _).alloc _).alloc _).alloc _).alloc _).alloc _
    have hb : Below x.heap.size x W := hkx.below (Nat.le_refl _) (fun _ _ h => h)
  · refine ⟨⟨bank_s0 _ _ _, ⟨rowIs_keep p.r hkx id, by rw [qe]; exact rowIs_keep rbe hkx id, by rw [qv]; exact rowIs_keep rbv hkx id, ?_, ?_, ?_, ?_, rowIs_keep p.got hkx id, p.st.kept hkx id id id id id id, ?_⟩⟩, ⟨bank_s0 _ _ _, ⟨?_, ?_, ?_, ?_, ?_, ?_, ?_⟩⟩, ?_⟩
    · rw [hW, hE]; repeat (first | (refine rows3 _ _ _ _ ?_; simp only [World.size_alloc, hz2]; rfl) | refine World.rowIs.alloc ?_ _)
    · rw [hW, hE]; repeat (first | (refine rows3 _ _ _ _ ?_; simp only [World.size_alloc, hz2]; rfl) | refine World.rowIs.alloc ?_ _)
    · rw [hW, hE]; repeat (first | (refine rows3 _ _ _ _ ?_; simp only [World.size_alloc, hz2]; rfl) | refine World.rowIs.alloc ?_ _)
    · rw [hW, hE]; repeat (first | (refine rows3 _ _ _ _ ?_; simp only [World.size_alloc, hz2]; rfl) | refine World.rowIs.alloc ?_ _)
    · rw [hW, hE]; show N + 15 ≤ _; simp only [World.size_alloc, hz2]; omega
    · rw [hW]; repeat (first | (refine rows3 _ _ _ _ ?_; simp only [World.size_alloc, hz2]; rfl) | refine World.rowIs.alloc ?_ _)
    · rw [hW]; repeat (first | (refine rows3 _ _ _ _ ?_; simp only [World.size_alloc, hz2]; rfl) | refine World.rowIs.alloc ?_ _)
    · rw [hW]; repeat (first | (refine rows3 _ _ _ _ ?_; simp only [World.size_alloc, hz2]; rfl) | refine World.rowIs.alloc ?_ _)
    · rw [hW]; repeat (first | (refine rows3 _ _ _ _ ?_; simp only [World.size_alloc, hz2]; rfl) | refine World.rowIs.alloc ?_ _)
    · rw [hW]; repeat (first | (refine rows3 _ _ _ _ ?_; simp only [World.size_alloc, hz2]; rfl) | refine World.rowIs.alloc ?_ _)
    · rw [hW]; repeat (first | (refine rows3 _ _ _ _ ?_; simp only [World.size_alloc, hz2]; rfl) | refine World.rowIs.alloc ?_ _)
    · rw [hW]; show N + 21 ≤ _; simp only [World.size_alloc, hz2]; omega
    · intro b hb1 hb2
      obtain ⟨l1, l2, l3, l4, l5, l6, l7, l8, l9, l10, l11, l12, l13, l14, l15, l16, _⟩ := hl
      obtain ⟨k0, k1, k2, k3, k4, k5, k6⟩ := hm
      rcases hb1 with hb1 | ⟨j, hj, hb1⟩
      · rcases hb2 with hb2 | ⟨j, hj, hb2⟩
        · unfold mfixed at hb1
          unfold fixed at hb2
          omega
        · cases hb2
      · cases hb1
  · exact p.bel.trans (hb.mono (by omega))
end Go.Proofs.Ybulkiec
