/-
  The contract of 'gcd' (pick.go:618): for two numbers from 0 on it returns their greatest common divisor, and the world stands but for draws.
-/
import Derived.Test.YbulkibyRows
import Derived.WalkKit
import Derived.ProofKit
import Derived.RegionTactic
import Derived.Deep.Draws
namespace Go.Proofs.Ybulkiby
open Go.ChangeShapes Go.WideShapes Go.ChangeAt Go.RowKit

/-- The greatest common divisor of two integers from 0 on. -/
def gcdI (a b : Int) : Int := ((Nat.gcd a.toNat b.toNat : Nat) : Int)

theorem gcdI_zero (a : Int) (h : 0 ≤ a) : gcdI a 0 = a := by
  unfold gcdI
  simp
  omega

theorem gcdI_step (a b : Int) (ha : 0 ≤ a) (hb : 0 ≤ b) : gcdI b (a % b) = gcdI a b := by
  unfold gcdI
  congr 1
  obtain ⟨m, rfl⟩ := Int.eq_ofNat_of_zero_le ha
  obtain ⟨n, rfl⟩ := Int.eq_ofNat_of_zero_le hb
  have : ((m : Int) % (n : Int)).toNat = m % n := by
    omega
  rw [this]
  simp only [Int.toNat_natCast]
  rw [Nat.gcd_comm n, ← Nat.gcd_rec, Nat.gcd_comm]

theorem ret_int {k : IntKind} {a b : Int} (h : a = b) : Ending.returned (.int k a) = .returned (.int k b) := by rw [h]

set_option maxHeartbeats 400000 in
theorem gcd_any (a b : Int) (w : World) (ha : 0 ≤ a) (hb : 0 ≤ b) (ha' : a ≤ 9223372036854775807) (hb' : b ≤ 9223372036854775807) :
    Calls Yba.prog 7 #[.int .i64 a, .int .i64 b] w fun e w' => e = .returned (.int .i64 (gcdI a b)) ∧ ∃ n, w' = w.drewN n := by
  go_enter Yba.func7, Yba.ntmps7
  go_wp2
  go_loopw [0, 1] (fun x y wr => ∃ p q : Int, 0 ≤ p ∧ 0 ≤ q ∧ p ≤ 9223372036854775807 ∧ q ≤ 9223372036854775807 ∧ x = .int .i64 p ∧ y = .int .i64 q ∧ Hid (gcdI p q = gcdI a b) ∧ ∃ n, wr = w.drewN n)
    (fun _ y _ => (intOf y).toNat)
  case atStart => exact ⟨a, b, ha, hb, ha', hb', rfl, rfl, rfl, 0, rfl⟩
  case round =>
    obtain ⟨p, q, hp, hq, hp', hq', rfl, rfl, HG, nd, rfl⟩ := hrel
    by_cases h0 : q = 0
    · subst h0
      go_wp2
      go_ret
      exact ⟨ret_int (by rw [← HG.out, gcdI_zero p hp]), nd, rfl⟩
    · have hne : (q != 0) = true := by simpa using h0
      have hpos : 0 < q := by omega
      have hm := Int.emod_nonneg p h0
      have hl := Int.emod_lt_of_pos p hpos
      go_wp2
      go_region
      go_wp2
      go_roundw
      case rel => exact ⟨q, p % q, hq, hm, hq', by omega, rfl, rfl, (by show gcdI q (p % q) = gcdI a b; rw [gcdI_step p q hp hq]; exact HG.out), nd + 1, rfl⟩
      case measure => simp [intOf]; omega

/-! ### THE PLAIN LAW -/
/-- What the loop holds after the divisors 1 .. k were tried: 'x' is the largest of them that divides both; 0 where none was tried. -/
def Best (a b : Int) (k x : Int) : Prop := 0 ≤ x ∧ x ≤ k ∧ (1 ≤ k → 1 ≤ x ∧ a % x = 0 ∧ b % x = 0) ∧ ∀ c, 1 ≤ c → c ≤ k → a % c = 0 → b % c = 0 → c ≤ x

theorem best_start (a b : Int) : Best a b 0 0 := ⟨by omega, by omega, fun h => by omega, fun c h1 h2 _ _ => by omega⟩

theorem best_hit {a b k : Int} (hk : 0 ≤ k) (ha : a % (k + 1) = 0) (hb : b % (k + 1) = 0) : Best a b (k + 1) (k + 1) :=
  ⟨by omega, by omega, fun _ => ⟨by omega, ha, hb⟩, fun c _ h2 _ _ => h2⟩

theorem best_miss {a b k x : Int} (h : Best a b k x) (hk : 0 ≤ k) (hn : ¬ (a % (k + 1) = 0 ∧ b % (k + 1) = 0)) : Best a b (k + 1) x := by
  obtain ⟨h1, h2, h3, h4⟩ := h
  have hk1 : 1 ≤ k := by
    by_cases hge : 1 ≤ k
    · exact hge
    · exfalso
      have : k = 0 := by omega
      subst this
      exact hn ⟨by simp, by simp⟩
  refine ⟨h1, by omega, fun _ => h3 hk1, fun c c1 c2 ca cb => ?_⟩
  by_cases he : c = k + 1
  · subst he
    exact absurd ⟨ca, cb⟩ hn
  · exact h4 c c1 (by omega) ca cb

theorem gcdI_dvd (a b : Int) (ha : 0 ≤ a) (hb : 0 ≤ b) : gcdI a b ∣ a ∧ gcdI a b ∣ b := by
  obtain ⟨m, rfl⟩ := Int.eq_ofNat_of_zero_le ha
  obtain ⟨n, rfl⟩ := Int.eq_ofNat_of_zero_le hb
  unfold gcdI
  simp only [Int.toNat_natCast]
  exact ⟨Int.natCast_dvd_natCast.2 (Nat.gcd_dvd_left m n), Int.natCast_dvd_natCast.2 (Nat.gcd_dvd_right m n)⟩

theorem dvd_gcdI (a b c : Int) (ha : 0 ≤ a) (hb : 0 ≤ b) (hc : 0 ≤ c) (h1 : c ∣ a) (h2 : c ∣ b) : c ∣ gcdI a b := by
  obtain ⟨m, rfl⟩ := Int.eq_ofNat_of_zero_le ha
  obtain ⟨n, rfl⟩ := Int.eq_ofNat_of_zero_le hb
  obtain ⟨k, rfl⟩ := Int.eq_ofNat_of_zero_le hc
  unfold gcdI
  simp only [Int.toNat_natCast]
  exact Int.natCast_dvd_natCast.2 (Nat.dvd_gcd (Int.natCast_dvd_natCast.1 h1) (Int.natCast_dvd_natCast.1 h2))

theorem gcdI_nonneg (a b : Int) : 0 ≤ gcdI a b := by unfold gcdI; omega

theorem gcdI_pos (a b : Int) (ha : 0 ≤ a) (hb : 0 ≤ b) (h : ¬ (a = 0 ∧ b = 0)) : 0 < gcdI a b := by
  have hn := gcdI_nonneg a b
  by_cases hp : 0 < gcdI a b
  · exact hp
  · exfalso
    have he : gcdI a b = 0 := by omega
    obtain ⟨d1, d2⟩ := gcdI_dvd a b ha hb
    rw [he] at d1 d2
    exact h ⟨Int.zero_dvd.1 d1, Int.zero_dvd.1 d2⟩

/-- The largest common divisor up to the greater of the two is the gcd. -/
theorem best_end {a b hi x : Int} (ha : 0 ≤ a) (hb : 0 ≤ b) (h : ¬ (a = 0 ∧ b = 0)) (h1 : a ≤ hi) (h2 : b ≤ hi) (hB : Best a b hi x) : gcdI a b = x := by
  obtain ⟨b1, b2, b3, b4⟩ := hB
  obtain ⟨d1, d2⟩ := gcdI_dvd a b ha hb
  have hp := gcdI_pos a b ha hb h
  obtain ⟨x1, xa, xb⟩ := b3 (by omega)
  have hx := dvd_gcdI a b x ha hb (by omega) (Int.dvd_of_emod_eq_zero xa) (Int.dvd_of_emod_eq_zero xb)
  have hle := Int.le_of_dvd hp hx
  have hgh : gcdI a b ≤ hi := by
    by_cases ha0 : a = 0
    · have := Int.le_of_dvd (by omega) d2
      omega
    · have := Int.le_of_dvd (by omega) d1
      omega
  have := b4 (gcdI a b) (by omega) hgh (Int.emod_eq_zero_of_dvd d1) (Int.emod_eq_zero_of_dvd d2)
  omega

end Go.Proofs.Ybulkiby
