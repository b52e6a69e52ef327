/- The contract of intPow (and of its export): a to the power b modulo 2^64, 1 for b at most 0. Condition: b fits an int. -/
import Derived.Test.YtefgeoadfjghaaaRows
import Derived.Test.YtefgeoadfjghaaaWrap
import Derived.WalkKit
import Derived.WalkSpells
import Derived.WalkLawsBesides
import Derived.Lib.Hide
namespace Go.Proofs.Ytefgeoadfjghaaa
open Go.RowKit

theorem ret_i64 {a b : Int} (h : a = b) : Ending.returned (.int .i64 a) = .returned (.int .i64 b) := by rw [h]

theorem and_one (b : Int) (h0 : 0 ≤ b) (h1 : b ≤ 9223372036854775807) : bits .and .i64 b 1 = b % 2 := by
  obtain ⟨B, rfl⟩ := Int.eq_ofNat_of_zero_le h0
  have e : (BitVec.ofInt 64 (B : Int)).toNat = B := by
    rw [BitVec.ofInt_natCast, BitVec.toNat_ofNat]; exact Nat.mod_eq_of_lt (by omega)
  have e1 : (BitVec.ofInt 64 (1 : Int)).toNat = 1 := by decide
  show IntKind.i64.wrap ((BitVec.ofInt 64 (B : Int) &&& BitVec.ofInt 64 (1 : Int)).toNat : Int) = _
  rw [BitVec.toNat_and, e, e1, Nat.and_one_is_mod, IntKind.wrap_i64]
  omega

set_option maxHeartbeats 1000000 in
theorem intPow_any (a b : Int) (w : World) (hb : b ≤ 9223372036854775807) :
    Calls Try.prog 25 #[.int .i64 a, .int .i64 b] w fun e w' => e = .returned (.int .i64 (powW a b)) ∧ w = w' := by
  by_cases hneg : b ≤ 0
  · rw [powW_neg a b hneg]
    go_enter Try.func25, Try.ntmps25
    go_wp2
    refine wp_loop_rounds 1 ?_
    rw [rounds_succ]
    go_wp2
    go_ret
    exact ⟨rfl, rfl⟩
  · go_enter Try.func25, Try.ntmps25
    go_wp2
    go_loop [0, 1, 5] (fun x y p => ∃ X Y Q : Int, 0 ≤ Y ∧ Y ≤ 9223372036854775807 ∧ x = .int .i64 X ∧ y = .int .i64 Y ∧ p = .int .i64 Q ∧ (-9223372036854775808 ≤ Q ∧ Q ≤ 9223372036854775807) ∧ Cg (Q * X ^ Y.toNat) (a ^ b.toNat)) (fun _ y _ => (intOf y).toNat)
    case atStart => exact ⟨a, b, 1, by omega, hb, rfl, rfl, rfl, by omega, by rw [Int.one_mul]; exact Cg.refl _⟩
    case round =>
      obtain ⟨X, Y, Q, hY0, hY1, rfl, rfl, rfl, hQ, hcg⟩ := hrel
      have HC := Lib.hid hcg
      clear hcg
      by_cases hz : 0 < Y
      · have hm := and_one Y hY0 hY1
        have hsh : Y / 2 ≤ 9223372036854775807 := by omega
        rcases Int.emod_two_eq Y with he | he
        · have HE := Lib.hid he
          rw [he] at hm
          clear he
          go_wp2
          go_round
          case rel => exact ⟨_, _, Q, by omega, hsh, rfl, rfl, rfl, hQ, by
            have := pow_round_even (n := Y.toNat) HC.out (by have := HE.out; omega)
            rwa [show (Y / 2).toNat = Y.toNat / 2 by omega]⟩
          case measure => simp [intOf]; omega
        · have HE := Lib.hid he
          rw [he] at hm
          clear he
          go_wp2
          go_round
          case rel => exact ⟨_, _, _, by omega, hsh, rfl, rfl, rfl, ⟨wrap64_lo _, wrap64_hi _⟩, by
            have := pow_round_odd (n := Y.toNat) HC.out (by have := HE.out; omega)
            rwa [show (Y / 2).toNat = Y.toNat / 2 by omega]⟩
          case measure => simp [intOf]; omega
      · go_wp2
        go_ret
        refine ⟨ret_i64 ?_, rfl⟩
        have := HC.out
        rw [show Y.toNat = 0 by omega, Int.pow_zero, Int.mul_one] at this
        exact this.eq_in hQ.1 hQ.2

theorem zpow_any (a b : Int) (w : World) (hb : b ≤ 9223372036854775807) :
    Calls Try.prog 7 #[.int .i64 a, .int .i64 b] w fun e w' => e = .returned (.int .i64 (powW a b)) ∧ w = w' := by
  go_enter Try.func7, Try.ntmps7
  go_wp2_with (go_at_call 25; refine (intPow_any _ _ _ hb).mono ?_; rintro e w' ⟨rfl, rfl⟩)
  go_ret
  exact ⟨rfl, rfl⟩
end Go.Proofs.Ytefgeoadfjghaaa
