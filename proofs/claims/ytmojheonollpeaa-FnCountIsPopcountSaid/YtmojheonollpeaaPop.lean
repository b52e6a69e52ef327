/- Counting bits, in plain Lean: the bits of a number below 2^32, one by one, by bytes, and by clearing the lowest one. -/
import Derived.RowKit
namespace Go.Proofs.Ytmojheonollpeaa

/-- the number of set bits among the low f bits -/
def pcF : Nat → Nat → Nat
  | 0, _ => 0
  | f + 1, n => n % 2 + pcF f (n / 2)

theorem pcF_zero (f : Nat) : pcF f 0 = 0 := by
  induction f with
  | zero => rfl
  | succ f ih => simp only [pcF, Nat.zero_div, ih, Nat.zero_mod]

/-- clearing the lowest set bit takes one away -/
theorem pcF_clear (f : Nat) : ∀ n : Nat, 0 < n → n < 2 ^ f → pcF f (n &&& (n - 1)) + 1 = pcF f n := by
  induction f with
  | zero => intro n h0 h1; rw [Nat.pow_zero] at h1; omega
  | succ f ih =>
    intro n h0 h1
    have e1 : (n &&& (n - 1)) % 2 = 0 := by
      rcases Nat.mod_two_eq_zero_or_one (n &&& (n - 1)) with h | h
      · exact h
      · have := Nat.and_mod_two_eq_one.1 h; omega
    simp only [pcF]
    rw [e1, Nat.and_div_two]
    rcases Nat.mod_two_eq_zero_or_one n with h | h
    · have e2 : (n - 1) / 2 = n / 2 - 1 := by omega
      rw [e2, h]
      have := ih (n / 2) (by omega) (by rw [Nat.pow_succ] at h1; omega)
      omega
    · have e2 : (n - 1) / 2 = n / 2 := by omega
      rw [e2, h, Nat.and_self]
      omega

theorem pcF_le (f : Nat) : ∀ n : Nat, pcF f n ≤ f := by
  induction f with
  | zero => intro n; exact Nat.le_refl _
  | succ f ih => intro n; have := ih (n / 2); simp only [pcF]; omega

/-- by bytes -/
theorem pcF_byte (f n : Nat) : pcF (f + 8) n = pcF 8 (n % 256) + pcF f (n / 256) := by
  simp only [pcF, Nat.div_div_eq_div_mul]
  have e0 : n % 256 % 2 = n % 2 := by omega
  have e1 : n % 256 / 2 % 2 = n / 2 % 2 := by omega
  have e2 : n % 256 / 4 % 2 = n / 4 % 2 := by omega
  have e3 : n % 256 / 8 % 2 = n / 8 % 2 := by omega
  have e4 : n % 256 / 16 % 2 = n / 16 % 2 := by omega
  have e5 : n % 256 / 32 % 2 = n / 32 % 2 := by omega
  have e6 : n % 256 / 64 % 2 = n / 64 % 2 := by omega
  have e7 : n % 256 / 128 % 2 = n / 128 % 2 := by omega
  simp only [Nat.reduceMul] at *
  omega

theorem pc32 (n : Nat) : pcF 32 n = pcF 8 (n / 16777216) + pcF 8 (n / 65536 % 256) + pcF 8 (n / 256 % 256) + pcF 8 (n % 256) := by
  rw [pcF_byte 24 n, pcF_byte 16 (n / 256), pcF_byte 8 (n / 256 / 256), Nat.div_div_eq_div_mul, Nat.div_div_eq_div_mul]
  simp only [Nat.reduceMul]
  omega
end Go.Proofs.Ytmojheonollpeaa
