/- Plain arithmetic of int64 modulo 2^64 (no program in sight): congruence, sums, products, powers, and what wrap64 makes of them. -/
import Derived.RowKit
namespace Go.Proofs.Ytefgeoadfjghaaa
open Go.RowKit (wrap64)

/-- equal modulo 2^64 -/
def Cg (x y : Int) : Prop := x % 18446744073709551616 = y % 18446744073709551616

theorem Cg.refl (x : Int) : Cg x x := rfl
theorem Cg.symm {x y : Int} (h : Cg x y) : Cg y x := Eq.symm h
theorem Cg.trans {x y z : Int} (h : Cg x y) (g : Cg y z) : Cg x z := Eq.trans h g
theorem Cg.mul {a b c d : Int} (h : Cg a b) (g : Cg c d) : Cg (a * c) (b * d) := by
  unfold Cg at *
  rw [Int.mul_emod, h, g, ← Int.mul_emod]
theorem Cg.add {a b c d : Int} (h : Cg a b) (g : Cg c d) : Cg (a + c) (b + d) := by
  unfold Cg at *
  rw [Int.add_emod, h, g, ← Int.add_emod]
theorem Cg.pow {a b : Int} (h : Cg a b) (n : Nat) : Cg (a ^ n) (b ^ n) := by
  induction n with
  | zero => rw [Int.pow_zero, Int.pow_zero]; exact Cg.refl _
  | succ n ih => rw [Int.pow_succ, Int.pow_succ]; exact ih.mul h
theorem Cg.wrap (x : Int) : Cg (wrap64 x) x := by unfold Cg wrap64; omega
theorem Cg.eq {x y : Int} (h : Cg x y) : wrap64 x = wrap64 y := by unfold Cg at h; unfold wrap64; omega
theorem Cg.eq_in {x y : Int} (h : Cg x y) (h0 : -9223372036854775808 ≤ x) (h1 : x ≤ 9223372036854775807) : x = wrap64 y := by
  unfold Cg at h; unfold wrap64; omega
theorem Cg.eq_both {x y : Int} (h : Cg x y) (h0 : -9223372036854775808 ≤ x) (h1 : x ≤ 9223372036854775807) (g0 : -9223372036854775808 ≤ y) (g1 : y ≤ 9223372036854775807) : x = y := by
  unfold Cg at h; omega
theorem wrap64_lo (x : Int) : -9223372036854775808 ≤ wrap64 x := by unfold wrap64; omega
theorem wrap64_hi (x : Int) : wrap64 x ≤ 9223372036854775807 := by unfold wrap64; omega

/-- what intPow computes: a to the power n modulo 2^64, as an int; n below 0 counts as 0 -/
def powW (a n : Int) : Int := wrap64 (a ^ n.toNat)

theorem powW_pow (a b c : Int) (hb : 0 ≤ b) (hc : 0 ≤ c) : powW (powW a b) c = powW a (b * c) := by
  unfold powW
  refine Cg.eq (((Cg.wrap _).pow _).trans ?_)
  obtain ⟨B, rfl⟩ := Int.eq_ofNat_of_zero_le hb
  obtain ⟨C, rfl⟩ := Int.eq_ofNat_of_zero_le hc
  rw [← Int.natCast_mul]
  simp only [Int.toNat_natCast]
  rw [Int.pow_mul]
  exact Cg.refl _

theorem powW_neg (a n : Int) (h : n ≤ 0) : powW a n = 1 := by
  unfold powW
  rw [show n.toNat = 0 by omega, Int.pow_zero]
  decide

/-- one round of square and multiply -/
theorem pow_half (a : Int) (n : Nat) : a ^ n = (if n % 2 = 1 then a else 1) * (a * a) ^ (n / 2) := by
  have e : n = n % 2 + 2 * (n / 2) := by omega
  have h2 : (a * a) ^ (n / 2) = a ^ (2 * (n / 2)) := by rw [Int.pow_mul, Int.pow_succ, Int.pow_succ, Int.pow_zero, Int.one_mul]
  rw [h2]
  rcases Nat.mod_two_eq_zero_or_one n with h | h
  · rw [if_neg (by omega), Int.one_mul]
    rw [show 2 * (n / 2) = n by omega]
  · rw [if_pos h]
    conv => lhs; rw [show n = 2 * (n / 2) + 1 by omega]
    rw [Int.pow_succ, Int.mul_comm]

theorem pow_round_odd {p a A : Int} {n : Nat} (h : Cg (p * a ^ n) A) (hn : n % 2 = 1) : Cg (wrap64 (p * a) * (wrap64 (a * a)) ^ (n / 2)) A := by
  rw [pow_half, if_pos hn] at h
  refine Cg.trans ?_ h
  rw [← Int.mul_assoc]
  exact (Cg.wrap _).mul ((Cg.wrap _).pow _)
theorem pow_round_even {p a A : Int} {n : Nat} (h : Cg (p * a ^ n) A) (hn : n % 2 = 0) : Cg (p * (wrap64 (a * a)) ^ (n / 2)) A := by
  rw [pow_half, if_neg (by omega), Int.one_mul] at h
  exact Cg.trans ((Cg.refl _).mul ((Cg.wrap _).pow _)) h

theorem pow_snoc (a : Int) (n : Nat) : wrap64 (wrap64 (a ^ n) * a) = wrap64 (a ^ (n + 1)) := by
  rw [Int.pow_succ]
  exact Cg.eq ((Cg.wrap _).mul (Cg.refl _))
end Go.Proofs.Ytefgeoadfjghaaa
