/-
  LawS0444BRun: from the first loop's end to the second loop's start.
-/
import Derived.Test.YbulkiecMk
import Derived.Test.YbulkiecAfter
import Derived.Deep.MidRow
namespace Go.Proofs.Ybulkiec
open Go.ChangeShapes Go.WideShapes Go.ChangeAt Go.RowKit
set_option linter.unusedVariables false

/-- A store of a struct, as a drawn region meets it. -/
theorem step_store_mid {P : Program} {ops : Array Oper} {o : Oper} {a : Act} {w : World} {K : Act → World → Prop} {Q : Exit → Act → World → Prop} {G : Prop} (hgd : o.guard = none) (ty : TypeId) (x y : Operand) (ho : o.op = .store ty x y)
    (b off : Nat) (cells : Array Value) (hx : a.eval x = .pointer (some ⟨b, off, none⟩)) (hy : a.eval y = .agg cells)
    (ht : w.there b off cells.size) (hi : (P.info? ty).map (·.size) = some cells.size) (h1 : cells.all (·.oneCell') = true)
    (h : K (a.put o.dst undef) (w.setCells b off cells.toList)) : if Region.wanted o (yielded ops a.tmps) = true then Oper.wp P o a w K Q else G := by
  have hw : Region.wanted o (yielded ops a.tmps) = true := by simp [Region.wanted, hgd]
  rw [if_pos hw]
  exact wp_store_mid ty x y ho b off cells hx hy ht hi h1 h

def zcell : Nat → Value
  | 0 => .pointer none
  | 7 => .nilIface
  | 8 => .nilFunc
  | 9 => .bool false
  | 14 => .pointer none
  | 15 => .int .i64 0
  | _ => .slice none 0 0

def envOf (N n be bv : Nat) (T A X : Nat → Int) : Env :=
  { n := n, bn := N, bi := N + 1, bo := N + 3, bs := N + 4, bt := N + 5, bit := N + 6, bg := N + 7, br := N + 8, be := be, bv := bv, brd := N + 11, bws := N + 12, bwr := N + 13, bb := N + 14, base := N + 15,
    tx := txOf T, ac := acOf A, io := ioOf A X, ix := fun j => (X j % 3).toNat, it := itmOf A X, nm := nmOf, itn := itOf }
def menvOf (N : Nat) : MEnv := { mb := N + 15, mr := N + 16, ms := N + 17, mw := N + 18, mv := N + 19, me := N + 20, base := N + 21 }

theorem envOf_lay (N n be bv : Nat) (T A X : Nat → Int) (hn : n ≤ 300) (hb : (be = N + 9 ∧ bv = N + 10) ∨ (be = N + 10 ∧ bv = N + 9)) (hby : ∀ j, j < n → (0 ≤ T j ∧ T j ≤ 255) ∧ (0 ≤ A j ∧ A j ≤ 255) ∧ (0 ≤ X j ∧ X j ≤ 255)) : Lay (envOf N n be bv T A X) := by
  refine ⟨?_, ?_, ?_, ?_, ?_, ?_, ?_, ?_, ?_, ?_, ?_, ?_, ?_, ?_, ?_, ?_, ?_, ?_, ?_, ?_⟩ <;> simp only [envOf]
  all_goals try omega
  · intro i hi; unfold txOf; omega
  · intro i hi; unfold acOf; omega
  · intro i hi ha
    unfold acOf at ha
    unfold ioOf
    rw [if_pos (by omega)]
    omega
theorem menvOf_lay (N n be bv : Nat) (T A X : Nat → Int) : MLay (envOf N n be bv T A X) (menvOf N) := by
  refine ⟨?_, ?_, ?_, ?_, ?_, ?_, ?_⟩ <;> simp only [envOf, menvOf] <;> omega

/-- The law's blocks while the 'optimistic' is filled. -/
structure P0 (w w0 : World) (E : Env) (f : Nat → Value) : Prop where
  bel : Below E.bn w w0
  st : Static w0 E
  got : w0.rowIs E.bg 40 1 (fun _ => .slice none 0 0)
  r : w0.rowIs E.br 56 20 f

theorem P0.alloc {w w0 : World} {E : Env} {f : Nat → Value} (h : P0 w w0 E f) (hN : E.bn ≤ w0.heap.size) (o : Obj) : P0 w (w0.alloc o) E f :=
  have hk : Kept (fun _ => False) w0 (w0.alloc o) := (Kept.refl _ _).alloc _
  ⟨h.bel.alloc hN _, h.st.kept hk id id id id id id, h.got.alloc _, h.r.alloc _⟩
theorem P0.drew {w w0 : World} {E : Env} {f : Nat → Value} (h : P0 w w0 E f) : P0 w w0.drew E f :=
  have hk : Kept (fun _ => False) w0 w0.drew := (Kept.refl _ _).drew
  ⟨h.bel.drew, h.st.kept hk id id id id id id, h.got, h.r⟩
theorem P0.set {w w0 : World} {E : Env} {f : Nat → Value} (hl : Lay E) (hN : E.bn ≤ E.br) (h : P0 w w0 E f) (j : Nat) (v : Value) : P0 w (w0.setCell ⟨E.br, j, none⟩ v) E (fun i => if i = j then v else f i) := by
  obtain ⟨l1, l2, l3, l4, l5, l6, l7, l8, l9, l10, l11, l12, l13, l14, l15, l16, _⟩ := hl
  have hk : Kept (fun b => b = E.br) w0 (w0.setCell ⟨E.br, j, none⟩ v) := Kept.setCell (p := fun b => b = E.br) rfl _
  exact ⟨h.bel.setCell hN _, h.st.kept hk (by show ¬ _ = _; omega) (by show ¬ _ = _; omega) (by show ¬ _ = _; omega) (by show ¬ _ = _; omega) (by show ¬ _ = _; omega) (by show ¬ _ = _; omega), rowIs_keep h.got hk (by show ¬ _ = _; omega), h.r.set j v⟩

theorem P0_start {w wr : World} {N b1 b2 b3 b4 b5 b6 n : Nat} {fo ft fi : Nat → Value} {T A X : Nat → Int} (be bv : Nat) (h : R7 w wr N b1 b2 b3 b4 b5 b6 n fo ft fi) (hd : Done T A X n fo ft fi) :
    P0 w ((wr.alloc (Obj.cells #[Value.slice none 0 0] 40)).alloc (Obj.cells #[Value.pointer none, Value.slice none 0 0, Value.slice none 0 0, Value.slice none 0 0, Value.slice none 0 0,
          Value.slice none 0 0, Value.slice none 0 0, Value.nilIface, Value.nilFunc, Value.bool false,
          Value.slice none 0 0, Value.slice none 0 0, Value.slice none 0 0, Value.slice none 0 0, Value.pointer none,
          Value.int IntKind.i64 0, Value.slice none 0 0, Value.slice none 0 0, Value.slice none 0 0,
          Value.slice none 0 0] 56)) (envOf N n be bv T A X) zcell := by
  obtain ⟨rfl, rfl, rfl, rfl, rfl, rfl, bel, old, size, nm, im, acts, ops, sc, tx, io⟩ := h
  obtain ⟨fs, hs, hs0⟩ := sc
  have st : Static wr (envOf N n be bv T A X) := by
    refine ⟨?_, fun i hi => ?_, fun i hi => ?_, fun i hi => ?_, fun i hi => ?_, fun i hi => ?_, fun t ht => ?_, fun t ht => ?_⟩
    · show wr.cell? ⟨N + 4, 0, none⟩ = _
      rw [hs.cell (by omega), hs0]; rfl
    · have hi' : i < n := hi
      show wr.cell? ⟨N + 3, i * 3, none⟩ = some (.string (nmOf (txOf T i)))
      rw [ops.cell (by omega), hd.o _ (by omega)]
      unfold opCell; rw [if_pos (by omega), show i * 3 / 3 = i by omega]
    · have hi' : i < n := hi
      show wr.cell? ⟨N + 3, i * 3 + 1, none⟩ = some (.int .u8 (acOf A i))
      rw [ops.cell (by omega), hd.o _ (by omega)]
      unfold opCell; rw [if_neg (by omega), if_pos (by omega), show (i * 3 + 1) / 3 = i by omega]
    · have hi' : i < n := hi
      show wr.cell? ⟨N + 3, i * 3 + 2, none⟩ = some (.string (itmOf A X i))
      rw [ops.cell (by omega), hd.o _ (by omega)]
      unfold opCell; rw [if_neg (by omega), if_neg (by omega), show (i * 3 + 2) / 3 = i by omega]
    · have hi' : i < n := hi
      show wr.cell? ⟨N + 5, i, none⟩ = some (.int .i64 (txOf T i : Int))
      rw [tx.cell hi', hd.t _ hi']
    · have hi' : i < n := hi
      show wr.cell? ⟨N + 6, i, none⟩ = some (.int .i64 (ioOf A X i))
      rw [io.cell hi', hd.i _ hi']
    · exact nm.cell ht
    · exact im.cell ht
  have g := World.rowIs_alloc wr #[Value.slice none 0 0] 40 (fun _ => .slice none 0 0) (fun i hi => by
    match i, hi with
    | 0, _ => rfl)
  rw [size] at g
  have r := World.rowIs_alloc (wr.alloc (Obj.cells #[Value.slice none 0 0] 40)) #[Value.pointer none, Value.slice none 0 0, Value.slice none 0 0, Value.slice none 0 0, Value.slice none 0 0,
          Value.slice none 0 0, Value.slice none 0 0, Value.nilIface, Value.nilFunc, Value.bool false,
          Value.slice none 0 0, Value.slice none 0 0, Value.slice none 0 0, Value.slice none 0 0, Value.pointer none,
          Value.int IntKind.i64 0, Value.slice none 0 0, Value.slice none 0 0, Value.slice none 0 0,
          Value.slice none 0 0] 56 zcell (fun i hi => by
    match i, hi with
    | 0, _ => rfl
    | 1, _ => rfl
    | 2, _ => rfl
    | 3, _ => rfl
    | 4, _ => rfl
    | 5, _ => rfl
    | 6, _ => rfl
    | 7, _ => rfl
    | 8, _ => rfl
    | 9, _ => rfl
    | 10, _ => rfl
    | 11, _ => rfl
    | 12, _ => rfl
    | 13, _ => rfl
    | 14, _ => rfl
    | 15, _ => rfl
    | 16, _ => rfl
    | 17, _ => rfl
    | 18, _ => rfl
    | 19, _ => rfl
    | k + 20, h => exact absurd h (by simp))
  rw [World.size_alloc, size] at r
  have hk := ((Kept.refl (fun _ => False) wr).alloc (Obj.cells #[Value.slice none 0 0] 40))
  exact ⟨(bel.alloc (by omega) _).alloc (by rw [World.size_alloc]; omega) _, st.kept (hk.alloc _) id id id id id id, g.alloc _, r⟩

theorem Kept.setCells {p : Nat → Prop} {b : Nat} (hb : p b) : ∀ (vs : List Value) (o : Nat) (w : World), Kept p w (w.setCells b o vs)
  | [], _, w => Kept.refl p w
  | v :: r, o, w => (Kept.setCell hb v).trans (Kept.setCells hb r (o + 1) _)

def putL (f : Nat → Value) (o : Nat) : List Value → Nat → Value
  | [] => f
  | v :: r => putL (fun i => if i = o then v else f i) (o + 1) r
theorem P0.setCells {w : World} {E : Env} (hl : Lay E) (hN : E.bn ≤ E.br) : ∀ (vs : List Value) (o : Nat) (w0 : World) (f : Nat → Value), P0 w w0 E f → P0 w (w0.setCells E.br o vs) E (putL f o vs)
  | [], _, _, _, h => h
  | v :: r, o, w0, f, h => P0.setCells hl hN r (o + 1) _ _ (h.set hl hN o v)

/-- The cells behind the store of the driver. -/
def f24 (E : Env) (i : Nat) : Value := if i < 15 then rcell E 0 (.slice none 0 0) i else zcell i

theorem P24 {w w0 : World} {N n b1 b4 b5 b6 b7 b8 be bv : Nat} {T A X : Nat → Int} (hl : Lay (envOf N n be bv T A X)) (e1 : b1 = N + 1) (e4 : b4 = N + 4) (e5 : b5 = N + 5) (e6 : b6 = N + 6) (e7 : b7 = N + 7) (e8 : b8 = N + 8) (hz : w0.heap.size = N + 9)
    (hbb : (be = N + 9 ∧ bv = N + 10) ∨ (be = N + 10 ∧ bv = N + 9)) (h : P0 w w0 (envOf N n be bv T A X) zcell) :
    P0 w (((w0.alloc (Obj.cells #[Value.bool false, Value.bool false, Value.bool false] 4)).alloc (Obj.cells #[Value.bool false, Value.bool false, Value.bool false] 4)).drew.setCells b8 0
      [Value.pointer (some { block := b4, off := 0 }), Value.slice (some { block := N, off := 0 }) 3 3,
        Value.slice (some { block := b5, off := 0 }) n n, Value.slice none 0 0, Value.slice none 0 0,
        Value.slice (some { block := b1, off := 0 }) 3 3, Value.slice (some { block := b6, off := 0 }) n n,
        Value.nilIface, Value.func (Fn.func 5) #[] #[Value.pointer (some { block := b7, off := 0 })], Value.bool false,
        Value.slice (some { block := be, off := 0 }) 3 3,
        Value.slice (some { block := bv, off := 0 }) 3 3, Value.slice none 0 0, Value.slice none 0 0,
        Value.pointer none]) (envOf N n be bv T A X) (f24 (envOf N n be bv T A X)) ∧
    (((w0.alloc (Obj.cells #[Value.bool false, Value.bool false, Value.bool false] 4)).alloc (Obj.cells #[Value.bool false, Value.bool false, Value.bool false] 4)).drew.setCells b8 0
      [Value.pointer (some { block := b4, off := 0 }), Value.slice (some { block := N, off := 0 }) 3 3,
        Value.slice (some { block := b5, off := 0 }) n n, Value.slice none 0 0, Value.slice none 0 0,
        Value.slice (some { block := b1, off := 0 }) 3 3, Value.slice (some { block := b6, off := 0 }) n n,
        Value.nilIface, Value.func (Fn.func 5) #[] #[Value.pointer (some { block := b7, off := 0 })], Value.bool false,
        Value.slice (some { block := be, off := 0 }) 3 3,
        Value.slice (some { block := bv, off := 0 }) 3 3, Value.slice none 0 0, Value.slice none 0 0,
        Value.pointer none]).rowIs be 4 3 (fun _ => .bool false) ∧
    (((w0.alloc (Obj.cells #[Value.bool false, Value.bool false, Value.bool false] 4)).alloc (Obj.cells #[Value.bool false, Value.bool false, Value.bool false] 4)).drew.setCells b8 0
      [Value.pointer (some { block := b4, off := 0 }), Value.slice (some { block := N, off := 0 }) 3 3,
        Value.slice (some { block := b5, off := 0 }) n n, Value.slice none 0 0, Value.slice none 0 0,
        Value.slice (some { block := b1, off := 0 }) 3 3, Value.slice (some { block := b6, off := 0 }) n n,
        Value.nilIface, Value.func (Fn.func 5) #[] #[Value.pointer (some { block := b7, off := 0 })], Value.bool false,
        Value.slice (some { block := be, off := 0 }) 3 3,
        Value.slice (some { block := bv, off := 0 }) 3 3, Value.slice none 0 0, Value.slice none 0 0,
        Value.pointer none]).rowIs bv 4 3 (fun _ => .bool false) ∧
    (((w0.alloc (Obj.cells #[Value.bool false, Value.bool false, Value.bool false] 4)).alloc (Obj.cells #[Value.bool false, Value.bool false, Value.bool false] 4)).drew.setCells b8 0
      [Value.pointer (some { block := b4, off := 0 }), Value.slice (some { block := N, off := 0 }) 3 3,
        Value.slice (some { block := b5, off := 0 }) n n, Value.slice none 0 0, Value.slice none 0 0,
        Value.slice (some { block := b1, off := 0 }) 3 3, Value.slice (some { block := b6, off := 0 }) n n,
        Value.nilIface, Value.func (Fn.func 5) #[] #[Value.pointer (some { block := b7, off := 0 })], Value.bool false,
        Value.slice (some { block := be, off := 0 }) 3 3,
        Value.slice (some { block := bv, off := 0 }) 3 3, Value.slice none 0 0, Value.slice none 0 0,
        Value.pointer none]).heap.size = N + 11 := by
  subst e1 e4 e5 e6 e7 e8
  obtain ⟨E, hE⟩ : ∃ E, E = envOf N n be bv T A X := ⟨_, rfl⟩
  have hN : E.bn ≤ E.br := by rw [hE]; show N ≤ N + 8; omega
  have q0 : E.bn = N := by rw [hE]; rfl
  have q8 : N + 8 = E.br := by rw [hE]; rfl
  rw [← hE] at hl h ⊢
  have g1 := h.alloc (by omega) (Obj.cells #[Value.bool false, Value.bool false, Value.bool false] 4)
  have g2 := (g1.alloc (by rw [World.size_alloc]; omega) (Obj.cells #[Value.bool false, Value.bool false, Value.bool false] 4)).drew
  have ra := World.rowIs_alloc w0 #[Value.bool false, Value.bool false, Value.bool false] 4 (fun _ => .bool false) (fun i hi => by
    match i, hi with
    | 0, _ => rfl
    | 1, _ => rfl
    | 2, _ => rfl
    | k + 3, h => exact absurd h (by simp))
  have rb := World.rowIs_alloc (w0.alloc (Obj.cells #[Value.bool false, Value.bool false, Value.bool false] 4)) #[Value.bool false, Value.bool false, Value.bool false] 4 (fun _ => .bool false) (fun i hi => by
    match i, hi with
    | 0, _ => rfl
    | 1, _ => rfl
    | 2, _ => rfl
    | k + 3, h => exact absurd h (by simp))
  replace ra := ra.alloc (Obj.cells #[Value.bool false, Value.bool false, Value.bool false] 4)
  rw [hz] at ra
  rw [World.size_alloc, hz] at rb
  have hsz : ((w0.alloc (Obj.cells #[Value.bool false, Value.bool false, Value.bool false] 4)).alloc (Obj.cells #[Value.bool false, Value.bool false, Value.bool false] 4)).drew.heap.size = N + 11 := by
    show ((w0.alloc (Obj.cells #[Value.bool false, Value.bool false, Value.bool false] 4)).alloc (Obj.cells #[Value.bool false, Value.bool false, Value.bool false] 4)).heap.size = N + 11
    simp [hz]
  replace ra : ((w0.alloc (Obj.cells #[Value.bool false, Value.bool false, Value.bool false] 4)).alloc (Obj.cells #[Value.bool false, Value.bool false, Value.bool false] 4)).drew.rowIs (N + 9) 4 3 (fun _ => .bool false) := ra
  replace rb : ((w0.alloc (Obj.cells #[Value.bool false, Value.bool false, Value.bool false] 4)).alloc (Obj.cells #[Value.bool false, Value.bool false, Value.bool false] 4)).drew.rowIs (N + 10) 4 3 (fun _ => .bool false) := rb
  generalize ((w0.alloc (Obj.cells #[Value.bool false, Value.bool false, Value.bool false] 4)).alloc (Obj.cells #[Value.bool false, Value.bool false, Value.bool false] 4)).drew = wx at *
  have hk := Kept.setCells (p := fun b => b = N + 8) rfl [Value.pointer (some { block := N + 4, off := 0 }), Value.slice (some { block := N, off := 0 }) 3 3,
        Value.slice (some { block := N + 5, off := 0 }) n n, Value.slice none 0 0, Value.slice none 0 0,
        Value.slice (some { block := N + 1, off := 0 }) 3 3, Value.slice (some { block := N + 6, off := 0 }) n n,
        Value.nilIface, Value.func (Fn.func 5) #[] #[Value.pointer (some { block := N + 7, off := 0 })], Value.bool false,
        Value.slice (some { block := be, off := 0 }) 3 3,
        Value.slice (some { block := bv, off := 0 }) 3 3, Value.slice none 0 0, Value.slice none 0 0,
        Value.pointer none] 0 wx
  refine ⟨?_, ?_, ?_, ?_⟩
  · have p := P0.setCells hl hN [Value.pointer (some { block := N + 4, off := 0 }), Value.slice (some { block := N, off := 0 }) 3 3,
        Value.slice (some { block := N + 5, off := 0 }) n n, Value.slice none 0 0, Value.slice none 0 0,
        Value.slice (some { block := N + 1, off := 0 }) 3 3, Value.slice (some { block := N + 6, off := 0 }) n n,
        Value.nilIface, Value.func (Fn.func 5) #[] #[Value.pointer (some { block := N + 7, off := 0 })], Value.bool false,
        Value.slice (some { block := be, off := 0 }) 3 3,
        Value.slice (some { block := bv, off := 0 }) 3 3, Value.slice none 0 0, Value.slice none 0 0,
        Value.pointer none] 0 wx _ g2
    rw [← q8] at p
    refine ⟨p.bel, p.st, p.got, ?_⟩
    refine p.r.congr (fun i hi => ?_)
    rw [hE]
    match i, hi with
    | 0, _ => rfl
    | 1, _ => rfl
    | 2, _ => rfl
    | 3, _ => rfl
    | 4, _ => rfl
    | 5, _ => rfl
    | 6, _ => rfl
    | 7, _ => rfl
    | 8, _ => rfl
    | 9, _ => rfl
    | 10, _ => rfl
    | 11, _ => rfl
    | 12, _ => rfl
    | 13, _ => rfl
    | 14, _ => rfl
    | 15, _ => rfl
    | 16, _ => rfl
    | 17, _ => rfl
    | 18, _ => rfl
    | 19, _ => rfl
    | k + 20, h => exact absurd h (by simp)
  · rcases hbb with ⟨x1, x2⟩ | ⟨x1, x2⟩
    · exact rowIs_keep (by rw [x1]; exact ra) hk (by show ¬ _ = _; omega)
    · exact rowIs_keep (by rw [x1]; exact rb) hk (by show ¬ _ = _; omega)
  · rcases hbb with ⟨x1, x2⟩ | ⟨x1, x2⟩
    · exact rowIs_keep (by rw [x2]; exact rb) hk (by show ¬ _ = _; omega)
    · exact rowIs_keep (by rw [x2]; exact ra) hk (by show ¬ _ = _; omega)
  · simp [World.setCells, hsz]

end Go.Proofs.Ybulkiec
