/-
  (*Node).mayTakePart.
-/
import Derived.Test.YbulkidoNode
namespace Go.Proofs.Ybulkido
open Go.ChangeShapes Go.WideShapes Go.ChangeAt Go.RowKit Go.Maps

/-- What mayTakePart finds: the node's fields, the rejoin's map and time, the clock's variables. -/
structure Env (w : World) (nb rb bc b0 b1 B n : Nat) (rs : Nat → Bool) (N F K turn qq q ca c0 c1 : Int) : Prop where
  e1 : w.cell? ⟨nb, 1, none⟩ = some (.int .i64 N)
  e2 : w.cell? ⟨nb, 2, none⟩ = some (.int .i64 F)
  e3 : w.cell? ⟨nb, 3, none⟩ = some (.int .i64 K)
  e4 : w.cell? ⟨nb, 4, none⟩ = some (.int .i64 turn)
  e50 : w.cell? ⟨nb, 50, none⟩ = some (.func (Fn.func 4) #[] #[.pointer (some ⟨bc, 0, none⟩), .pointer (some ⟨b0, 0, none⟩), .pointer (some ⟨b1, 0, none⟩)])
  e51 : w.cell? ⟨nb, 51, none⟩ = some (.int .i64 qq)
  r0 : w.cell? ⟨rb, 0, none⟩ = some (.map (some B))
  r8 : w.cell? ⟨rb, 8, none⟩ = some (.int .u64 (tw q))
  r9 : w.cell? ⟨rb, 9, none⟩ = some (.int .i64 (tx q))
  r10 : w.cell? ⟨rb, 10, none⟩ = some (.pointer none)
  g8 : w.frozen? ⟨rb, 8, none⟩ = false
  g9 : w.frozen? ⟨rb, 9, none⟩ = false
  g10 : w.frozen? ⟨rb, 10, none⟩ = false
  k0 : w.cell? ⟨bc, 0, none⟩ = some (.int .i64 ca)
  f0 : w.frozen? ⟨bc, 0, none⟩ = false
  k1 : w.cell? ⟨b0, 0, none⟩ = some (.int .i32 c0)
  k2 : w.cell? ⟨b1, 0, none⟩ = some (.int .i32 c1)

theorem frozen_lt {w : World} {b o : Nat} {v : Value} (h : w.cell? ⟨b, o, none⟩ = some v) : b < w.heap.size := cell_lt h

theorem Env.below {w w1 : World} {nb rb bc b0 b1 B n : Nat} {rs : Nat → Bool} {N F K turn qq q ca c0 c1 : Int} (h : Env w nb rb bc b0 b1 B n rs N F K turn qq q ca c0 c1) (hb : Below w.heap.size w w1) :
    Env w1 nb rb bc b0 b1 B n rs N F K turn qq q ca c0 c1 := by
  obtain ⟨c, f⟩ := bcell hb
  have ln := cell_lt h.e1
  have lr := cell_lt h.r0
  have lc := cell_lt h.k0
  exact ⟨(c _ _ ln).trans h.e1, (c _ _ ln).trans h.e2, (c _ _ ln).trans h.e3, (c _ _ ln).trans h.e4, (c _ _ ln).trans h.e50, (c _ _ ln).trans h.e51,
    (c _ _ lr).trans h.r0, (c _ _ lr).trans h.r8, (c _ _ lr).trans h.r9, (c _ _ lr).trans h.r10, (f _ _ lr).trans h.g8, (f _ _ lr).trans h.g9, (f _ _ lr).trans h.g10,
    (c _ _ lc).trans h.k0, (f _ _ lc).trans h.f0, (c _ _ (cell_lt h.k1)).trans h.k1, (c _ _ (cell_lt h.k2)).trans h.k2⟩

/-- What the law finds behind it: the clock's count, the rejoin's time; nothing else that was there has turned. -/
structure Took (w w' : World) (bc rb : Nat) (calls q' : Int) : Prop where
  os : w'.os = w.os
  tape : w'.tape = w.tape
  output : w'.output = w.output
  size : w.heap.size ≤ w'.heap.size
  block : ∀ b, b < w.heap.size → b ≠ bc → b ≠ rb → w'.heap[b]? = w.heap[b]?
  k0 : w'.cell? ⟨bc, 0, none⟩ = some (.int .i64 calls)
  r8 : w'.cell? ⟨rb, 8, none⟩ = some (.int .u64 (tw q'))
  r9 : w'.cell? ⟨rb, 9, none⟩ = some (.int .i64 (tx q'))
  r10 : w'.cell? ⟨rb, 10, none⟩ = some (.pointer none)

theorem Took.of_below {w w1 : World} {nb rb bc b0 b1 B n : Nat} {rs : Nat → Bool} {N F K turn qq q ca c0 c1 : Int} (h : Env w nb rb bc b0 b1 B n rs N F K turn qq q ca c0 c1) (hb : Below w.heap.size w w1) : Took w w1 bc rb ca q :=
  have h1 := h.below hb
  ⟨hb.os, hb.tape, hb.output, hb.size, fun b hlt _ _ => hb.block b hlt, h1.k0, h1.r8, h1.r9, h1.r10⟩

theorem Stat.lt {w : World} {B n : Nat} {rs : Nat → Bool} (h : Stat w B n rs) : B < w.heap.size := by
  obtain ⟨D, hown, _⟩ := h
  exact hown.lt

/-- 'len' of the map, in whatever world that part from w in draws alone. -/
theorem stat_len {w w1 : World} {B n : Nat} {rs : Nat → Bool} (h : Stat w B n rs) (hb : Below w.heap.size w w1) (ty : TypeId) (m : Nat) :
    (Builtin.len_ #[24] ty #[.map (some B)]).run Yba.prog (w1.drewN m) = .ok (.int .i64 (n : Int)) (w1.drewN m) := by
  obtain ⟨D, hown, hsize, _⟩ := h
  have h1 : (w1.drewN m).ownsMap Yba.prog 3 ptrElem B n D := by
    obtain ⟨es, clock, he, r⟩ := hown
    exact ⟨es, clock, (hb.block B (Array.getElem?_eq_some_iff.1 he).1).trans he, r⟩
  rw [h1.len Yba.underlying24 ty, hsize]

set_option maxRecDepth 100000 in
set_option maxHeartbeats 1000000 in
/-- Enough are running. -/
theorem may_many (nb rb bc b0 b1 B n : Nat) (rs : Nat → Bool) (N F K turn qq q ca c0 c1 : Int) (w : World) (hn : n ≤ 1024) (hst : Stat w B n rs) (he : Env w nb rb bc b0 b1 B n rs N F K turn qq q ca c0 c1) (hq : qq ≤ (runs n rs : Nat)) :
    Calls Yba.prog 6 #[.pointer (some ⟨nb, 0, none⟩), .pointer (some ⟨rb, 0, none⟩)] w fun e w' => e = .returned (.bool true) ∧ Below w.heap.size w w' := by
  have hrl := runs_le n rs
  go_enter Yba.func6, Yba.ntmps6
  go_wp2_with fail
  refine (running_any rb B n rs _ hn he.r0 hst).mono ?_
  rintro e w1 ⟨rfl, hb⟩
  have HB : Hid (Below w.heap.size w w1) := hb
  have hlen := fun ty => stat_len hst hb ty 0
  simp only [World.drewN_zero] at hlen
  obtain ⟨e1, e2, e3, e4, e50, e51, r0, r8, r9, r10, g8, g9, g10, k0, f0, k1, k2⟩ := he.below hb
  clear hb hst he e1 e2 e3 e4 e50 r8 r9 r10 g8 g9 g10 k0 f0 k1 k2
  generalize runs n rs = R at *
  go_wp2
  go_ret
  exact ⟨rfl, HB.out⟩
end Go.Proofs.Ybulkido
