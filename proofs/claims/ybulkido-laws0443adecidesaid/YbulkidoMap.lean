/-
  The map of statuses, and '(*rejoin).running'.
-/
import Derived.Test.YbulkidoRows
import Derived.WalkKit
import Derived.ProofKit
import Derived.Maps.RangeWalk
import Derived.Maps.OwnSet
namespace Go.Proofs.Ybulkido
open Go.ChangeShapes Go.WideShapes Go.ChangeAt Go.RowKit Go.Maps

/-! ### Counting, whatever order the keys come in -/
/-- How many of 0 .. n-1 are no longer to come and not restarting. -/
def done (n : Nat) (left : Lit → Bool) (rs : Nat → Bool) : Nat := ((List.range n).filter (fun i : Nat => !left (.int .i64 (i : Int)) && !rs i)).length
/-- How many of 0 .. n-1 are not restarting. -/
def runs (n : Nat) (rs : Nat → Bool) : Nat := ((List.range n).filter (fun i => !rs i)).length

theorem runs_succ (n : Nat) (rs : Nat → Bool) : runs (n + 1) rs = runs n rs + if rs n then 0 else 1 := by
  unfold runs
  rw [List.range_succ, List.filter_append]
  cases h : rs n <;> simp [h]

theorem runs_le (n : Nat) (rs : Nat → Bool) : runs n rs ≤ n := by
  unfold runs
  have := List.length_filter_le (fun i => !rs i) (List.range n)
  simpa using this

theorem done_le (n : Nat) (left : Lit → Bool) (rs : Nat → Bool) : done n left rs ≤ n := by
  unfold done
  have := List.length_filter_le (fun i : Nat => !left (.int .i64 i) && !rs i) (List.range n)
  simpa using this

theorem done_end (n : Nat) (left : Lit → Bool) (rs : Nat → Bool) (h : ∀ kl, left kl = false) : done n left rs = runs n rs := by
  unfold done runs
  congr 1
  apply List.filter_congr
  intro i _
  rw [h]
  rfl

theorem done_start (n : Nat) (left : Lit → Bool) (rs : Nat → Bool) (h : ∀ i : Nat, i < n → left (.int .i64 i) = true) : done n left rs = 0 := by
  unfold done
  rw [List.length_eq_zero_iff, List.filter_eq_nil_iff]
  intro i hi
  rw [h i (List.mem_range.1 hi)]
  simp

theorem key_ne {i j : Nat} (h : i ≠ j) : Lit.int .i64 (i : Int) ≠ .int .i64 (j : Int) := by
  intro e
  injection e with _ e
  omega

theorem count_one (p q : Nat → Bool) (x : Nat) : ∀ n, x < n → p x = false → (∀ i, i ≠ x → q i = p i) → ((List.range n).filter q).length = ((List.range n).filter p).length + if q x then 1 else 0 := by
  intro n
  induction n with
  | zero => intro h; omega
  | succ n ih =>
    intro h hp hq
    rw [List.range_succ, List.filter_append, List.filter_append, List.length_append, List.length_append]
    by_cases e : x = n
    · subst e
      have h1 : (List.range x).filter q = (List.range x).filter p := List.filter_congr (fun i hi => hq i (by have := List.mem_range.1 hi; omega))
      rw [h1]
      cases hqx : q x <;> simp [hp, hqx]
    · rw [ih (by omega) hp hq]
      have h2 : q n = p n := hq n (fun h => e h.symm)
      simp only [List.filter_cons, List.filter_nil, h2]
      omega

/-- One key has come. -/
theorem done_step (n x : Nat) (left : Lit → Bool) (rs : Nat → Bool) (hx : x < n) (hl : left (.int .i64 x) = true) :
    done n (fun z => left z && !z.sameKey (.int .i64 x)) rs = done n left rs + if rs x then 0 else 1 := by
  unfold done
  rw [count_one (fun i : Nat => !left (.int .i64 (i : Int)) && !rs i) _ x n hx (by simp [hl]) ?_]
  · have : (Lit.int .i64 (x : Int)).sameKey (.int .i64 x) = true := WideAt.sameKey_self trivial
    cases h : rs x <;> simp [this]
  · intro i hi
    have := sameKey_ne (key_ne hi)
    simp [this]

/-! ### The map's elements: pointers to the heads of blocks, read as the blocks' numbers -/
def ptrAt (b : Nat) : Value := .pointer (some ⟨b, 0, none⟩)
def ptrElem (v : Value) : Option (DataW Unit × List MemPlace) :=
  match v with
  | .pointer (some ⟨b, 0, none⟩) => some (.lit (.int .i64 b), [])
  | _ => none
theorem ptrElem_at (b : Nat) : ptrElem (.pointer (some ⟨b, 0, none⟩)) = some (.lit (.int .i64 b), []) := rfl
theorem ptrElem_inv {v : Value} {y : DataW Unit × List MemPlace} (h : ptrElem v = some y) : ∃ b, v = ptrAt b := by
  unfold ptrElem at h
  split at h
  · exact ⟨_, rfl⟩
  · cases h

theorem law3 : Keyed Yba.prog 3 := int_keyed Yba.underlying3

/-- BLOCK B IS THE MAP OF THE n STATUSES: key i leads to block B + 1 + i, whose flag is 'rs i'. -/
def Stat (w : World) (B n : Nat) (rs : Nat → Bool) : Prop :=
  ∃ D : DataW Unit, w.ownsMap Yba.prog 3 ptrElem B n D ∧ Maps.size D = n ∧ (∀ kl, Maps.has D kl = true → ∃ i : Nat, i < n ∧ kl = .int .i64 i) ∧
    (∀ i : Nat, i < n → ∀ z, D.atKey (.int .i64 i) z = .lit (.int .i64 ((B + 1 + i : Nat) : Int))) ∧ ∀ i, i < n → w.cell? ⟨B + 1 + i, 6, none⟩ = some (.bool (rs i))

theorem cell_lt {w : World} {b o : Nat} {v : Value} (h : w.cell? ⟨b, o, none⟩ = some v) : b < w.heap.size := by
  unfold World.cell? at h
  split at h
  · rename_i hb
    exact (Array.getElem?_eq_some_iff.1 hb).1
  · cases h

set_option maxRecDepth 100000 in
/-- The entry that has come, in plain numbers. -/
theorem came {D : DataW Unit} {n B : Nat} {left : Lit → Bool} {x : Int} {c : Nat} {kl : Lit} {yd : DataW Unit} {yp : List MemPlace}
    (ha : ∀ i : Nat, i < n → ∀ z, D.atKey (.int .i64 i) z = .lit (.int .i64 ((B + 1 + i : Nat) : Int))) (hl : ∀ kl, left kl = true → ∃ i : Nat, i < n ∧ kl = .int .i64 i)
    (hkx : keyOf Yba.prog 3 (.int .i64 x) = some kl) (hlk : left kl = true) (hre : ptrElem (.pointer (some ⟨c, 0, none⟩)) = some (yd, yp)) (hat : ∀ zd, D.atKey kl zd = yd) :
    ∃ i : Nat, i < n ∧ x = i ∧ c = B + 1 + i ∧ kl = .int .i64 i := by
  obtain ⟨i, hi, rfl⟩ := hl kl hlk
  refine ⟨i, hi, ?_, ?_, rfl⟩
  · obtain ⟨x', e1, e2, _⟩ := Maps.keyOf_int_inv Yba.underlying3 hkx
    simp only [Value.int.injEq, Lit.int.injEq, true_and] at e1 e2
    omega
  · rw [ptrElem_at] at hre
    simp only [Option.some.injEq, Prod.mk.injEq] at hre
    have h2 := (ha i hi (.lit (.int .i64 0))).symm.trans (hat _)
    rw [← hre.1] at h2
    simp only [DataW.lit.injEq, Lit.int.injEq, true_and] at h2
    omega

set_option maxRecDepth 100000 in
set_option maxHeartbeats 1000000 in
/-- '(*rejoin).running': how many are not restarting, in whatever order the map hands them out. -/
theorem running_any (rb B n : Nat) (rs : Nat → Bool) (w : World) (hn : n ≤ 1024) (hc : w.cell? ⟨rb, 0, none⟩ = some (.map (some B))) (hst : Stat w B n rs) :
    Calls Yba.prog 12 #[.pointer (some ⟨rb, 0, none⟩)] w fun e w' => e = .returned (.int .i64 (runs n rs : Nat)) ∧ Below w.heap.size w w' := by
  obtain ⟨D, hown, hsize, hhas, hat, hcells⟩ := hst
  have HH : Hid (∀ kl, Maps.has D kl = true → ∃ i : Nat, i < n ∧ kl = .int .i64 i) := hhas
  have HA : Hid (∀ i : Nat, i < n → ∀ z, D.atKey (.int .i64 i) z = .lit (.int .i64 ((B + 1 + i : Nat) : Int))) := hat
  have HC : Hid (∀ i, i < n → w.cell? ⟨B + 1 + i, 6, none⟩ = some (.bool (rs i))) := hcells
  clear hhas hat hcells hsize
  go_enter Yba.func12, Yba.ntmps12
  go_wp2_with (first
    | (at_range; refine wpList_range_own _ rfl _ 24 rfl 3 25 law3 Yba.underlying24 _ B n _ rfl hown ?_; intro w0 hrg0 hg0 hs0)
    | go_in)
  go_frame
  go_loopw [3] (fun v wr => ∃ (left : Lit → Bool) (cnt : Nat), wr.ranges Yba.prog 3 ptrElem B w.heap.size n D left cnt ∧ v = .int .i64 (done n left rs : Nat) ∧
      Hid (∀ kl, left kl = true → ∃ i : Nat, i < n ∧ kl = .int .i64 i) ∧ Hid (Below w.heap.size w wr))
    (fun _ wr => wr.rangeLeft B w.heap.size)
  case atStart =>
    refine ⟨_, _, hrg0, ?_, HH.out, (Below.refl _ _).grown hg0 (Nat.le_refl _) (fun k e => by cases e)⟩
    rw [done_start n _ rs (fun i hi => has_true_of_atKey (HA.out i hi))]
    rfl
  case round =>
    obtain ⟨left, cnt, hrg, rfl, HL, HB⟩ := hrel
    have hdl := done_le n left rs
    go_wp2_with (first
      | (at_next; refine wpList_next_ranges _ rfl _ rfl 3 law3 ptrElem (Value.int .i64) (fun b => .pointer (some ⟨b, 0, none⟩)) (fun key kl hkey => by obtain ⟨x, rfl, _⟩ := Maps.keyOf_int_inv Yba.underlying3 hkey; exact ⟨x, rfl⟩) (fun v y hv => ptrElem_inv hv) B w.heap.size n D left cnt rfl hrg ?_ ?_)
      | go_in)
    · -- nothing is left
      intro _ hl0
      have HD : Hid (done n left rs = runs n rs) := done_end n left rs hl0
      clear hl0
      go_wp2
      go_ret
      exact ⟨by rw [← HD.out]; rfl, HB.out⟩
    · -- an entry has come
      intro x c kl yd yp w1 cnt1 hkx hlk hre haty hrg1 hlt hg1 hs1 hen
      obtain ⟨i, hi, hx, hcb, hkl⟩ := came HA.out HL.out hkx hlk hre haty
      subst hx hcb hkl
      have HB1 : Hid (Below w.heap.size w w1) := HB.out.grown hg1 HB.out.size (fun k e => by cases e; exact Nat.le_refl _)
      have hlt6 : B + 1 + i < w.heap.size := cell_lt (HC.out i hi)
      have g6 : w1.cell? ⟨B + 1 + i, 6, none⟩ = some (.bool (rs i)) := (HB1.out.cell (by exact hlt6)).trans (HC.out i hi)
      have HD := done_step n i left rs hi hlk
      have HL1 : Hid (∀ kl, (left kl && !kl.sameKey (.int .i64 i)) = true → ∃ i : Nat, i < n ∧ kl = .int .i64 i) := fun kl h => HL.out kl (by simp at h; exact h.1)
      clear hkx hlk hre haty hg1 hs1
      cases hri : rs i
      · rw [hri] at HD g6
        have HD1 : Hid (done n (fun z => left z && !z.sameKey (.int .i64 i)) rs = done n left rs + 1) := HD
        clear HD hri
        go_wp2
        go_roundw
        case rel => exact ⟨_, cnt1, hrg1, by rw [HD1.out]; go_num, HL1, HB1⟩
        case measure => rw [hrg1.left_eq, hrg.left_eq]; exact hlt
      · rw [hri] at HD g6
        have HD1 : Hid (done n (fun z => left z && !z.sameKey (.int .i64 i)) rs = done n left rs) := HD
        clear HD hri
        go_wp2
        go_roundw
        case rel => exact ⟨_, cnt1, hrg1, by rw [HD1.out], HL1, HB1⟩
        case measure => rw [hrg1.left_eq, hrg.left_eq]; exact hlt
end Go.Proofs.Ybulkido
