/- The contracts of the functions that the laws of n010_9 reach: zzInSet, paramOps, regOps, asciiDigit and asciiLetter (both instances of each). No conditions beyond the bounds that are written. -/
import Derived.Test.YtpfbaedippghaaaRows
import Derived.WalkKit
import Derived.WalkSpells
import Derived.WalkLawsBesides
import Derived.Lib.Hide
namespace Go.Proofs.Ytpfbaedippghaaa
open Go.RowKit

theorem ret_bool {a b : Bool} (h : a = b) : Ending.returned (.bool a) = .returned (.bool b) := by rw [h]

/-- is the number one of the bytes? -/
def inSet (a : Int) (l : List UInt8) : Bool := l.any fun c => ((c.toNat : Int) == a)

theorem inSet_snoc (a : Int) (l : List UInt8) (c : UInt8) : inSet a (l ++ [c]) = (inSet a l || ((c.toNat : Int) == a)) := by
  simp [inSet]

theorem inSet_of_take (a : Int) (l : List UInt8) (k : Nat) (h : k < l.length) (e : ((l[k].toNat : Int) == a) = true) : inSet a l = true := by
  simp only [inSet, List.any_eq_true]
  exact ⟨l[k], List.getElem_mem h, e⟩

theorem take_snoc (s : ByteArray) (k : Nat) (h : k < s.size) : s.data.toList.take (k + 1) = s.data.toList.take k ++ [s[k]] := by
  rw [List.take_succ_eq_append_getElem (by simpa using h)]; rfl

theorem byte_le (c : UInt8) : (c.toNat : Int) ≤ 255 := by
  have := c.toNat_lt; omega

set_option maxHeartbeats 400000 in
theorem inSet_any (a : Int) (s : ByteArray) (w : World) (hs : s.size ≤ 1000) :
    Calls Try.prog 8 #[.int .i32 a, .string s] w fun e w' => e = .returned (.bool (inSet a s.data.toList)) ∧ w = w' := by
  go_enter Try.func8, Try.ntmps8
  go_wp2
  go_loop [5] (fun i => ∃ k : Nat, k ≤ s.size ∧ i = .int .i64 k ∧ inSet a (s.data.toList.take k) = false) (fun i => s.size - (intOf i).toNat)
  case atStart => exact ⟨0, Nat.zero_le _, rfl, rfl⟩
  case round =>
    obtain ⟨k, hk, rfl, hn⟩ := hrel
    have HN := Lib.hid hn
    clear hn
    by_cases hlt : k < s.size
    · have hb := byte_le s[k]
      have HT := Lib.hid (take_snoc s k hlt)
      by_cases he : ((s[k].toNat : Int) == a) = true
      · go_wp2
        go_ret
        exact ⟨ret_bool (inSet_of_take a s.data.toList k (by simpa using hlt) he).symm, rfl⟩
      · have he' : ((s[k].toNat : Int) == a) = false := by simpa using he
        clear he
        go_wp2
        go_round
        case rel => exact ⟨k + 1, by omega, by go_num, by rw [HT.out, inSet_snoc, HN.out, he']; rfl⟩
        case measure => simp [intOf]; omega
    · go_wp2
      go_ret
      exact ⟨ret_bool (by rw [← HN.out, List.take_of_length_le (by simp; omega)]), rfl⟩

theorem inSet_cons (a : Int) (c : UInt8) (l : List UInt8) : inSet a (c :: l) = (a == (c.toNat : Int) || inSet a l) := by
  simp only [inSet, List.any_cons]; rw [Bool.beq_comm]
theorem inSet_nil (a : Int) : inSet a [] = false := rfl

set_option maxHeartbeats 400000 in
theorem param_any (a : Int) (w : World) :
    Calls Try.prog 14 #[.int .i32 a] w fun e w' => e = .returned (.bool (inSet a [125, 35, 33, 58, 45, 43, 61, 63, 37, 91, 93, 47, 94, 44, 64, 42])) ∧ w = w' := by
  go_enter Try.func14, Try.ntmps14
  go_wp2
  all_goals
    go_ret
    exact ⟨ret_bool (by simp only [inSet_cons, inSet_nil]; simp [*]), rfl⟩

set_option maxHeartbeats 400000 in
theorem reg_any (a : Int) (w : World) :
    Calls Try.prog 15 #[.int .i32 a] w fun e w' => e = .returned (.bool (inSet a [59, 34, 39, 40, 41, 36, 124, 38, 62, 60, 96])) ∧ w = w' := by
  go_enter Try.func15, Try.ntmps15
  go_wp2
  all_goals
    go_ret
    exact ⟨ret_bool (by simp only [inSet_cons, inSet_nil]; simp [*]), rfl⟩

set_option maxHeartbeats 400000 in
theorem zparam_any (a : Int) (w : World) :
    Calls Try.prog 7 #[.int .i32 a] w fun e w' => e = .returned (.bool (inSet a [125, 35, 33, 58, 45, 43, 61, 63, 37, 91, 93, 47, 94, 44, 64, 42])) ∧ w = w' := by
  go_enter Try.func7, Try.ntmps7
  go_wp2_with (go_at_call 14; refine (param_any _ _).mono ?_; rintro e w' ⟨rfl, rfl⟩)
  go_ret
  exact ⟨rfl, rfl⟩

set_option maxHeartbeats 400000 in
theorem zreg_any (a : Int) (w : World) :
    Calls Try.prog 9 #[.int .i32 a] w fun e w' => e = .returned (.bool (inSet a [59, 34, 39, 40, 41, 36, 124, 38, 62, 60, 96])) ∧ w = w' := by
  go_enter Try.func9, Try.ntmps9
  go_wp2_with (go_at_call 15; refine (reg_any _ _).mono ?_; rintro e w' ⟨rfl, rfl⟩)
  go_ret
  exact ⟨rfl, rfl⟩

def digB (a : Int) : Bool := decide (48 ≤ a ∧ a ≤ 57)
def letB (a : Int) : Bool := decide ((97 ≤ a ∧ a ≤ 122) ∨ (65 ≤ a ∧ a ≤ 90))

theorem dig_set (a : Int) : inSet a [48, 49, 50, 51, 52, 53, 54, 55, 56, 57] = digB a := by
  rw [Bool.eq_iff_iff]
  simp only [inSet_cons, inSet_nil, digB, decide_eq_true_eq, Bool.or_eq_true, beq_iff_eq]
  simp
  omega

set_option maxRecDepth 4000 in
theorem let_set (a : Int) : inSet a [97, 98, 99, 100, 101, 102, 103, 104, 105, 106, 107, 108, 109, 110, 111, 112, 113, 114, 115, 116, 117, 118, 119, 120, 121, 122, 65, 66, 67, 68, 69, 70, 71, 72, 73, 74, 75, 76, 77, 78, 79, 80, 81, 82, 83, 84, 85, 86, 87, 88, 89, 90] = letB a := by
  rw [Bool.eq_iff_iff]
  simp only [inSet_cons, inSet_nil, letB, decide_eq_true_eq, Bool.or_eq_true, beq_iff_eq]
  simp
  omega

set_option maxHeartbeats 400000 in
theorem zdig_any (a : Int) (w : World) :
    Calls Try.prog 10 #[.int .i32 a] w fun e w' => e = .returned (.bool (digB a)) ∧ w = w' := by
  by_cases h1 : 48 ≤ a <;> by_cases h2 : a ≤ 57
  all_goals
    go_enter Try.func10, Try.ntmps10
    go_wp2
    go_ret
    exact ⟨ret_bool (by simp [digB]; omega), rfl⟩

set_option maxHeartbeats 400000 in
theorem zdigb_any (a : Int) (w : World) :
    Calls Try.prog 11 #[.int .u8 a] w fun e w' => e = .returned (.bool (digB a)) ∧ w = w' := by
  by_cases h1 : 48 ≤ a <;> by_cases h2 : a ≤ 57
  all_goals
    go_enter Try.func11, Try.ntmps11
    go_wp2
    go_ret
    exact ⟨ret_bool (by simp [digB]; omega), rfl⟩

set_option maxHeartbeats 400000 in
theorem zlet_any (a : Int) (w : World) :
    Calls Try.prog 12 #[.int .i32 a] w fun e w' => e = .returned (.bool (letB a)) ∧ w = w' := by
  by_cases h1 : 97 ≤ a <;> by_cases h2 : a ≤ 122 <;> by_cases h3 : 65 ≤ a <;> by_cases h4 : a ≤ 90 <;> try omega
  all_goals
    go_enter Try.func12, Try.ntmps12
    go_wp2
    go_ret
    exact ⟨ret_bool (by simp [letB]; omega), rfl⟩

set_option maxHeartbeats 400000 in
theorem zletb_any (a : Int) (w : World) :
    Calls Try.prog 13 #[.int .u8 a] w fun e w' => e = .returned (.bool (letB a)) ∧ w = w' := by
  by_cases h1 : 97 ≤ a <;> by_cases h2 : a ≤ 122 <;> by_cases h3 : 65 ≤ a <;> by_cases h4 : a ≤ 90 <;> try omega
  all_goals
    go_enter Try.func13, Try.ntmps13
    go_wp2
    go_ret
    exact ⟨ret_bool (by simp [letB]; omega), rfl⟩

end Go.Proofs.Ytpfbaedippghaaa
