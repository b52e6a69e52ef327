/- The contract of the law's own rune length (zzRuneLenAt, zzFirstRuneSize): the size that the model's decoder gives. Conditions: the string is not empty. -/
import Derived.Test.YtdiimpggoejphaaDoorSlices
import Derived.WalkKit
import Derived.WalkSpells
import Derived.WalkLawsBesides
import Derived.Lib.Hide
import Derived.Outline
import Derived.Below
namespace Go.Proofs.YtdiimpggoejphaaDoor
open Go.RowKit
namespace RL

/-- the decoder's size, over the bytes -/
def D (n x0 x1 x2 x3 : Nat) : Nat :=
  if x0 < 128 then 1
  else if x0 / 32 = 6 ∧ 1 < n ∧ x1 / 64 = 2 then (if 128 ≤ x0 % 32 * 64 + x1 % 64 then 2 else 1)
  else if x0 / 16 = 14 ∧ (1 < n ∧ x1 / 64 = 2) ∧ 2 < n ∧ x2 / 64 = 2 then
    (if 2048 ≤ x0 % 16 * 4096 + x1 % 64 * 64 + x2 % 64 ∧ (x0 % 16 * 4096 + x1 % 64 * 64 + x2 % 64 < 55296 ∨ 57344 ≤ x0 % 16 * 4096 + x1 % 64 * 64 + x2 % 64) then 3 else 1)
  else if x0 / 8 = 30 ∧ (1 < n ∧ x1 / 64 = 2) ∧ (2 < n ∧ x2 / 64 = 2) ∧ 3 < n ∧ x3 / 64 = 2 then
    (if 65536 ≤ x0 % 8 * 262144 + x1 % 64 * 4096 + x2 % 64 * 64 + x3 % 64 ∧ x0 % 8 * 262144 + x1 % 64 * 4096 + x2 % 64 * 64 + x3 % 64 ≤ 1114111 then 4 else 1)
  else 1
theorem decode_D (s : ByteArray) : (Utf8.decode s 0).2 = D s.size (s.get! 0).toNat (s.get! 1).toNat (s.get! 2).toNat (s.get! 3).toNat := by
  unfold Utf8.decode D Utf8.valid
  simp only [Nat.zero_add, Bool.and_eq_true, beq_iff_eq, decide_eq_true_eq, Bool.or_eq_true, ge_iff_le]
  generalize (s.get! 0).toNat = x0
  generalize (s.get! 1).toNat = x1
  generalize (s.get! 2).toNat = x2
  generalize (s.get! 3).toNat = x3
  repeat' split
  all_goals first | rfl | omega
theorem get_at (s : ByteArray) (k : Nat) (h : k < s.size) : s.get! k = s[k]'h := by
  have := Go.get_at s k h
  simpa using this
/-- r, or 1 where it is 0, is the first rune's size -/
def OkLen (s : ByteArray) (r : Int) : Prop := 0 ≤ r ∧ r ≤ 4 ∧ (if r.toNat = 0 then 1 else r.toNat) = (Utf8.decode s 0).2
def LenV (s : ByteArray) (w : World) (e : Ending) (w' : World) : Prop := ∃ r : Int, e = .returned (.int .i64 r) ∧ OkLen s r ∧ w = w'
theorem ok_four (s : ByteArray) (k0 : 0 < s.size) (k1 : 1 < s.size) (k2 : 2 < s.size) (k3 : 3 < s.size) (r : Int) (h : 0 ≤ r ∧ r ≤ 4) (hD : (if r.toNat = 0 then 1 else r.toNat) = D s.size s[0].toNat s[1].toNat s[2].toNat s[3].toNat) : OkLen s r := by
  refine ⟨h.1, h.2, ?_⟩
  rw [hD, decode_D, get_at s 0 k0, get_at s 1 k1, get_at s 2 k2, get_at s 3 k3]
theorem ok_three (s : ByteArray) (k0 : 0 < s.size) (k1 : 1 < s.size) (k2 : 2 < s.size) (r : Int) (h : 0 ≤ r ∧ r ≤ 4) (hD : ∀ x3, (if r.toNat = 0 then 1 else r.toNat) = D s.size s[0].toNat s[1].toNat s[2].toNat x3) : OkLen s r := by
  refine ⟨h.1, h.2, ?_⟩
  rw [hD, decode_D, get_at s 0 k0, get_at s 1 k1, get_at s 2 k2]
theorem ok_two (s : ByteArray) (k0 : 0 < s.size) (k1 : 1 < s.size) (r : Int) (h : 0 ≤ r ∧ r ≤ 4) (hD : ∀ x2 x3, (if r.toNat = 0 then 1 else r.toNat) = D s.size s[0].toNat s[1].toNat x2 x3) : OkLen s r := by
  refine ⟨h.1, h.2, ?_⟩
  rw [hD, decode_D, get_at s 0 k0, get_at s 1 k1]
theorem ok_one (s : ByteArray) (k0 : 0 < s.size) (r : Int) (h : 0 ≤ r ∧ r ≤ 4) (hD : ∀ x1 x2 x3, (if r.toNat = 0 then 1 else r.toNat) = D s.size s[0].toNat x1 x2 x3) : OkLen s r := by
  refine ⟨h.1, h.2, ?_⟩
  rw [hD, decode_D, get_at s 0 k0]
set_option maxRecDepth 100000 in
set_option maxHeartbeats 8000000 in
theorem len_one (s : ByteArray) (w : World) (h : s.size = 1) (hs : s.size ≤ 1048576) :
    Calls Tryd.prog 17 #[.string s, .int .i64 0] w (LenV s w) := by
  have k0 : 0 < s.size := by omega
  have hb0 := (s[0]'k0).toNat_lt
  have i0 : (0 : Int) < (s.size : Int) := by omega
  have j2 : (s.size : Int) < 2 := by omega
  have j3 : (s.size : Int) < 3 := by omega
  have j4 : (s.size : Int) < 4 := by omega
  go_enter Tryd.func17, Tryd.ntmps17
  go_wp2_with (go_at_call 21; go_in)
  all_goals go_ret
  all_goals refine ⟨_, rfl, ok_one s k0 _ ?_ ?_, rfl⟩
  all_goals first | (focus (constructor <;> decide)) | (intro x1 x2 x3; simp only [Int.toNat_zero, Int.toNat_one, Int.reduceToNat, Nat.reduceEqDiff, ite_true, ite_false, if_true, if_false, reduceIte, Bool.not_eq_eq_eq_not, Bool.not_true, Bool.not_false, decide_eq_false_iff_not, decide_eq_true_eq, beq_iff_eq, beq_eq_false_iff_ne, ne_eq, D] at *; ((repeat' split) <;> omega))
set_option maxRecDepth 100000 in
set_option maxHeartbeats 8000000 in
theorem len_two (s : ByteArray) (w : World) (h : s.size = 2) (hs : s.size ≤ 1048576) :
    Calls Tryd.prog 17 #[.string s, .int .i64 0] w (LenV s w) := by
  have k0 : 0 < s.size := by omega
  have k1 : 1 < s.size := by omega
  have hb0 := (s[0]'k0).toNat_lt
  have hb1 := (s[1]'k1).toNat_lt
  have i0 : (0 : Int) < (s.size : Int) := by omega
  have i1 : (1 : Int) < (s.size : Int) := by omega
  have j2 : ¬ (s.size : Int) < 2 := by omega
  have j3 : (s.size : Int) < 3 := by omega
  have j4 : (s.size : Int) < 4 := by omega
  go_enter Tryd.func17, Tryd.ntmps17
  go_wp2_with (go_at_call 21; go_in)
  all_goals go_ret
  all_goals refine ⟨_, rfl, ok_two s k0 k1 _ ?_ ?_, rfl⟩
  all_goals first | (focus (constructor <;> decide)) | (intro x2 x3; simp only [Int.toNat_zero, Int.toNat_one, Int.reduceToNat, Nat.reduceEqDiff, ite_true, ite_false, if_true, if_false, reduceIte, Bool.not_eq_eq_eq_not, Bool.not_true, Bool.not_false, decide_eq_false_iff_not, decide_eq_true_eq, beq_iff_eq, beq_eq_false_iff_ne, ne_eq, D] at *; ((repeat' split) <;> omega))
set_option maxRecDepth 100000 in
set_option maxHeartbeats 8000000 in
theorem len_three (s : ByteArray) (w : World) (h : s.size = 3) (hs : s.size ≤ 1048576) :
    Calls Tryd.prog 17 #[.string s, .int .i64 0] w (LenV s w) := by
  have k0 : 0 < s.size := by omega
  have k1 : 1 < s.size := by omega
  have k2 : 2 < s.size := by omega
  have hb0 := (s[0]'k0).toNat_lt
  have hb1 := (s[1]'k1).toNat_lt
  have hb2 := (s[2]'k2).toNat_lt
  have i0 : (0 : Int) < (s.size : Int) := by omega
  have i1 : (1 : Int) < (s.size : Int) := by omega
  have i2 : (2 : Int) < (s.size : Int) := by omega
  have j2 : ¬ (s.size : Int) < 2 := by omega
  have j3 : ¬ (s.size : Int) < 3 := by omega
  have j4 : (s.size : Int) < 4 := by omega
  go_enter Tryd.func17, Tryd.ntmps17
  go_wp2_with (go_at_call 21; go_in)
  all_goals go_ret
  all_goals refine ⟨_, rfl, ok_three s k0 k1 k2 _ ?_ ?_, rfl⟩
  all_goals first | (focus (constructor <;> decide)) | (intro x3; simp only [Int.toNat_zero, Int.toNat_one, Int.reduceToNat, Nat.reduceEqDiff, ite_true, ite_false, if_true, if_false, reduceIte, Bool.not_eq_eq_eq_not, Bool.not_true, Bool.not_false, decide_eq_false_iff_not, decide_eq_true_eq, beq_iff_eq, beq_eq_false_iff_ne, ne_eq, D] at *; ((repeat' split) <;> omega))
set_option maxRecDepth 100000 in
set_option maxHeartbeats 8000000 in
theorem len_four (s : ByteArray) (w : World) (h : 4 ≤ s.size) (hs : s.size ≤ 1048576) :
    Calls Tryd.prog 17 #[.string s, .int .i64 0] w (LenV s w) := by
  have k0 : 0 < s.size := by omega
  have k1 : 1 < s.size := by omega
  have k2 : 2 < s.size := by omega
  have k3 : 3 < s.size := by omega
  have hb0 := (s[0]'k0).toNat_lt
  have hb1 := (s[1]'k1).toNat_lt
  have hb2 := (s[2]'k2).toNat_lt
  have hb3 := (s[3]'k3).toNat_lt
  have i0 : (0 : Int) < (s.size : Int) := by omega
  have i1 : (1 : Int) < (s.size : Int) := by omega
  have i2 : (2 : Int) < (s.size : Int) := by omega
  have i3 : (3 : Int) < (s.size : Int) := by omega
  have j2 : ¬ (s.size : Int) < 2 := by omega
  have j3 : ¬ (s.size : Int) < 3 := by omega
  have j4 : ¬ (s.size : Int) < 4 := by omega
  go_enter Tryd.func17, Tryd.ntmps17
  go_wp2_with (go_at_call 21; go_in)
  all_goals go_ret
  all_goals refine ⟨_, rfl, ok_four s k0 k1 k2 k3 _ ?_ ?_, rfl⟩
  all_goals first | (focus (constructor <;> decide)) | (simp only [Int.toNat_zero, Int.toNat_one, Int.reduceToNat, Nat.reduceEqDiff, ite_true, ite_false, if_true, if_false, reduceIte, Bool.not_eq_eq_eq_not, Bool.not_true, Bool.not_false, decide_eq_false_iff_not, decide_eq_true_eq, beq_iff_eq, beq_eq_false_iff_ne, ne_eq, D] at *; ((repeat' split) <;> omega))
theorem runeLen (s : ByteArray) (w : World) (h : 0 < s.size) (hs : s.size ≤ 1048576) :
    Calls Tryd.prog 17 #[.string s, .int .i64 0] w (LenV s w) := by
  by_cases h1 : s.size = 1
  · exact len_one s w h1 hs
  by_cases h2 : s.size = 2
  · exact len_two s w h2 hs
  by_cases h3 : s.size = 3
  · exact len_three s w h3 hs
  exact len_four s w (by omega) hs
end RL
end Go.Proofs.YtdiimpggoejphaaDoor
