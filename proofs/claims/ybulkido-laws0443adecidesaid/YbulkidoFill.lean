/-
  Filling the map of statuses: what one round of the law's first loop does.
-/
import Derived.Test.YbulkidoMap
import Derived.Test.YbulkidoClock
namespace Go.Proofs.Ybulkido
open Go.ChangeShapes Go.WideShapes Go.ChangeAt Go.RowKit Go.Maps

theorem mk_map (n : Int) (w : World) : (Instr.makeMap 24 (some (.int .i64 n))).run Yba.prog w = .ok (.map (some w.heap.size)) (w.alloc (.map #[] 0)) := by
  simp [Instr.makeMap, run_underlying Yba.underlying24, asInt, asIntOf]

/-- The slice of flags that came in. -/
def SrcB (w : World) (a : Option Addr) (len : Nat) (rs : Nat → Bool) : Prop :=
  len = 0 ∨ ∃ b off, a = some ⟨b, off, none⟩ ∧ b < w.heap.size ∧ ∀ i, i < len → w.cell? ⟨b, off + i, none⟩ = some (.bool (rs i))

theorem srcB_at {w wr : World} {ao : Option Addr} {len : Nat} {rs : Nat → Bool} (hs : SrcB w ao len rs) {k : Nat} (hk : k < len) (h : Below w.heap.size w wr) :
    ∃ b off, ao = some ⟨b, off, none⟩ ∧ wr.cell? ⟨b, off + k, none⟩ = some (.bool (rs k)) := by
  rcases hs with h0 | ⟨b, off, hao, hb, hc⟩
  · omega
  · exact ⟨b, off, hao, (h.cell (by exact hb)).trans (hc k hk)⟩

theorem stat_start (w : World) (rs : Nat → Bool) : Stat (w.alloc (.map #[] 0)) w.heap.size 0 rs :=
  ⟨.map [], World.ownsMap_made w Yba.prog 3 ptrElem, rfl, fun kl h => by simp [Maps.has] at h, fun i hi => by omega, fun i hi => by omega⟩

theorem stat_step {wr w1 : World} {B k : Nat} {rs : Nat → Bool} {D : DataW Unit} {o : Obj} (hown : wr.ownsMap Yba.prog 3 ptrElem B k D) (hsize : Maps.size D = k)
    (hhas : ∀ kl, Maps.has D kl = true → ∃ i : Nat, i < k ∧ kl = .int .i64 i) (hat : ∀ i : Nat, i < k → ∀ z, D.atKey (.int .i64 i) z = .lit (.int .i64 ((B + 1 + i : Nat) : Int)))
    (hcells : ∀ i, i < k → wr.cell? ⟨B + 1 + i, 6, none⟩ = some (.bool (rs i))) (hsz : wr.heap.size = B + 1 + k)
    (ho : (wr.alloc o).cell? ⟨wr.heap.size, 6, none⟩ = some (.bool (rs k)))
    (hown1 : w1.ownsMap Yba.prog 3 ptrElem B (k + 1) (D.put (.int .i64 (k : Int)) (.lit (.int .i64 ((wr.heap.size : Nat) : Int))))) (hg1 : (wr.alloc o).grownBy w1 (some B)) :
    Stat w1 B (k + 1) rs := by
  have hkey : WideAt.IsKeyLit (Lit.int .i64 (k : Int)) := trivial
  have htidy : Tidy D := by
    obtain ⟨es, e, hp, _⟩ := hown.entries law3
    exact ⟨es, e, hp⟩
  have hno : Maps.has D (.int .i64 (k : Int)) = false := by
    cases h : Maps.has D (.int .i64 (k : Int))
    · rfl
    · obtain ⟨i, hi, e⟩ := hhas _ h
      simp only [Lit.int.injEq, true_and] at e
      omega
  refine ⟨_, hown1, ?_, ?_, ?_, ?_⟩
  · rw [size_put htidy, hno]
    simp [hsize]
  · intro kl h
    by_cases e : kl = .int .i64 (k : Int)
    · exact ⟨k, by omega, e⟩
    · rw [has_put_other e] at h
      obtain ⟨i, hi, e'⟩ := hhas kl h
      exact ⟨i, by omega, e'⟩
  · intro i hi z
    by_cases e : i = k
    · subst e
      rw [atKey_put_same htidy.isMap hkey, hsz]
    · rw [atKey_put_other (key_ne e)]
      exact hat i (by omega) z
  · intro i hi
    have hb : ∀ j, j < (wr.alloc o).heap.size → j ≠ B → w1.heap[j]? = (wr.alloc o).heap[j]? := fun j h1 h2 => hg1.block j h1 (fun e => h2 (by injection e))
    by_cases e : i = k
    · subst e
      rw [← hsz, World.cell?_of_block (w := wr.alloc o) (hb _ (by simp) (by simp; omega))]
      exact ho
    · rw [World.cell?_of_block (w := wr.alloc o) (hb _ (by simp; omega) (by simp; omega))]
      rw [World.cell?_of_block (w := wr) (Below.heap_alloc wr o _ (by simp; omega))]
      exact hcells i (by omega)

/-- The two boxed parameters. -/
theorem two_boxes (w : World) (c0 c1 : Int) : ∃ W2, (w.alloc (Obj.cells #[Value.int IntKind.i32 c0] 21)).alloc (Obj.cells #[Value.int IntKind.i32 c1] 21) = W2 ∧ W2.heap.size = w.heap.size + 1 + 1 ∧ Below w.heap.size w W2 ∧
    W2.cell? ⟨w.heap.size, 0, none⟩ = some (.int .i32 c0) ∧ W2.cell? ⟨w.heap.size + 1, 0, none⟩ = some (.int .i32 c1) := by
  refine ⟨_, rfl, by simp, ((Below.refl _ _).alloc (Nat.le_refl _) _).alloc (by simp) _, ?_, ?_⟩
  · go_simp
  · rw [← World.size_alloc w (Obj.cells #[Value.int IntKind.i32 c0] 21)]
    go_simp
end Go.Proofs.Ybulkido
