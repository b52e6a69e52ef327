/- The ways of FnErrPassFirstErrorWinsOverScript that end before a parser is built: too long a list, lists of unlike lengths. No conditions but the rows that it reads. -/
import Derived.Test.YtefgeoadfjghaaaErrB
namespace Go.Proofs.Ytefgeoadfjghaaa
namespace EP
open Go.RowKit
def Sum (n B : Nat) (vz vi : Value) : Prop := ∃ k z : Nat, k ≤ n ∧ z ≤ B + 1048576 * k ∧ vi = .int .i64 k ∧ vz = .int .i64 z
set_option maxRecDepth 100000 in
set_option maxHeartbeats 4000000 in
theorem long (tok : Int) (a1 a2 a3 a4 a5 : Option Addr) (n1 n2 n3 n4 n5 c1 c2 c3 c4 c5 : Nat) (fb : Nat → Int) (f g : Nat → ByteArray) (fi : Nat → Bool) (fu : Nat → Int) (w : World)
    (r1 : IRow .u8 w a1 n1 fb) (r2 : SRow w a2 n2 f) (r3 : SRow w a3 n3 g) (r4 : BRow w a4 n4 fi) (r5 : IRow .u64 w a5 n5 fu)
    (z1 : a1 = none → n1 = 0 ∧ c1 = 0) (z2 : a2 = none → n2 = 0 ∧ c2 = 0) (z3 : a3 = none → n3 = 0 ∧ c3 = 0) (z4 : a4 = none → n4 = 0 ∧ c4 = 0) (z5 : a5 = none → n5 = 0 ∧ c5 = 0)
    (s2 : ∀ i, i < n2 → (f i).size ≤ 9223372036854775807) (s3 : ∀ i, i < n3 → (g i).size ≤ 9223372036854775807) (u0 : ∀ i, i < n5 → 0 ≤ fu i)
    (b1 : n1 ≤ 9223372036854775807) (b2 : n2 ≤ 9223372036854775807) (b3 : n3 ≤ 9223372036854775807) (b4 : n4 ≤ 9223372036854775807) (b5 : n5 ≤ 9223372036854775807) (hl : 4096 < n2 ∨ (n2 ≤ 4096 ∧ 4096 < n3) ∨ (n2 ≤ 4096 ∧ n3 ≤ 4096 ∧ 4096 < n4) ∨ (n2 ≤ 4096 ∧ n3 ≤ 4096 ∧ n4 ≤ 4096 ∧ 4096 < n5)) :
    Calls Try.prog 5 #[.int .u32 tok, .slice a1 n1 c1, .slice a2 n2 c2, .slice a3 n3 c3, .slice a4 n4 c4, .slice a5 n5 c5] w fun e w' => e = .returned (.bool true) ∧ Below w.heap.size w w' := by
  have Hr1 := Lib.hid r1
  have Hr2 := Lib.hid r2
  have Hr3 := Lib.hid r3
  have Hr4 := Lib.hid r4
  have Hr5 := Lib.hid r5
  have Hz1 := Lib.hid z1
  have Hz2 := Lib.hid z2
  have Hz3 := Lib.hid z3
  have Hz4 := Lib.hid z4
  have Hz5 := Lib.hid z5
  have Hs2 := Lib.hid s2
  have Hs3 := Lib.hid s3
  have Hu0 := Lib.hid u0
  clear r1 r2 r3 r4 r5 z1 z2 z3 z4 z5 s2 s3 u0
  rcases hl with hl | ⟨_, hl⟩ | ⟨_, _, hl⟩ | ⟨_, _, _, hl⟩
  all_goals
    go_enter Try.func5, Try.ntmps5
    go_wp2_with (first | (go_at_call 8; refine (bytes_any _ _ _ _ _ _ _ _ _ _ _ _ _ _ _ _ f g _ Hr2.out Hr3.out Hs2.out Hs3.out b1 b2 b3 b4 b5).mono ?_; rintro e w' ⟨x, rfl, hx, rfl⟩; have HX := Lib.hid hx; clear hx; cases x))
    all_goals
      go_ret
      exact ⟨rfl, Below.refl _ _⟩
set_option maxRecDepth 100000 in
set_option maxHeartbeats 16000000 in
theorem ne3 (tok : Int) (a1 a2 a3 a4 a5 : Option Addr) (n1 n2 n3 n4 n5 c1 c2 c3 c4 c5 : Nat) (fb : Nat → Int) (f g : Nat → ByteArray) (fi : Nat → Bool) (fu : Nat → Int) (w : World)
    (r1 : IRow .u8 w a1 n1 fb) (r2 : SRow w a2 n2 f) (r3 : SRow w a3 n3 g) (r4 : BRow w a4 n4 fi) (r5 : IRow .u64 w a5 n5 fu)
    (z1 : a1 = none → n1 = 0 ∧ c1 = 0) (z2 : a2 = none → n2 = 0 ∧ c2 = 0) (z3 : a3 = none → n3 = 0 ∧ c3 = 0) (z4 : a4 = none → n4 = 0 ∧ c4 = 0) (z5 : a5 = none → n5 = 0 ∧ c5 = 0)
    (s2 : ∀ i, i < n2 → (f i).size ≤ 9223372036854775807) (s3 : ∀ i, i < n3 → (g i).size ≤ 9223372036854775807) (u0 : ∀ i, i < n5 → 0 ≤ fu i)
    (b1 : n1 ≤ 9223372036854775807) (b2 : n2 ≤ 9223372036854775807) (b3 : n3 ≤ 9223372036854775807) (b4 : n4 ≤ 9223372036854775807) (b5 : n5 ≤ 9223372036854775807) (l2 : n2 ≤ 4096) (l3 : n3 ≤ 4096) (l4 : n4 ≤ 4096) (l5 : n5 ≤ 4096) (hne : ¬ n3 = n2) :
    Calls Try.prog 5 #[.int .u32 tok, .slice a1 n1 c1, .slice a2 n2 c2, .slice a3 n3 c3, .slice a4 n4 c4, .slice a5 n5 c5] w fun e w' => e = .returned (.bool true) ∧ Below w.heap.size w w' := by
  have Hr1 := Lib.hid r1
  have Hr2 := Lib.hid r2
  have Hr3 := Lib.hid r3
  have Hr4 := Lib.hid r4
  have Hr5 := Lib.hid r5
  have Hz1 := Lib.hid z1
  have Hz2 := Lib.hid z2
  have Hz3 := Lib.hid z3
  have Hz4 := Lib.hid z4
  have Hz5 := Lib.hid z5
  have Hs2 := Lib.hid s2
  have Hs3 := Lib.hid s3
  have Hu0 := Lib.hid u0
  clear r1 r2 r3 r4 r5 z1 z2 z3 z4 z5 s2 s3 u0
  go_enter Try.func5, Try.ntmps5
  go_upto_region 3 with (first | (go_at_call 8; refine (bytes_any _ _ _ _ _ _ _ _ _ _ _ _ _ _ _ _ f g _ Hr2.out Hr3.out Hs2.out Hs3.out b1 b2 b3 b4 b5).mono ?_; rintro e w' ⟨x, rfl, hx, rfl⟩; have HX := Lib.hid hx; clear hx; cases x))
  all_goals try (go_ret; exact ⟨rfl, Below.refl _ _⟩)
  have m1 := (HX.out rfl).1
  go_wp2
  go_loop [13, 14] (fun vz vi => Sum n2 1200000 vz vi) (fun _ vi => n2 - (intOf vi).toNat)
  case atStart => exact ⟨0, n1 + 8 * n2 + 8 * n3 + n4 + 8 * n5, Nat.zero_le _, by omega, rfl, by go_num⟩
  case round =>
    obtain ⟨k, z, hk, hz, rfl, rfl⟩ := hrel
    by_cases hlt : k < n2
    · obtain ⟨x, rfl, hc⟩ := Hr2.out k hlt
      have hsz := (HX.out rfl).2.2.2.2.2.1 k hlt
      have i0 : (0 : Int) ≤ (k : Int) := by omega
      have i1 : (k : Int) < (n2 : Int) := by omega
      go_wp2
      go_round
      case rel => exact ⟨k + 1, z + (f k).size, by omega, by omega, by go_num, by go_num⟩
      case measure => simp [intOf]; omega
    · have hkn : ¬ (k : Int) < (n2 : Int) := by omega
      have hz2 : z ≤ 4300000000 := by omega
      go_wp2
      go_loop [13, 15] (fun vz vi => Sum n3 4300000000 vz vi) (fun _ vi => n3 - (intOf vi).toNat)
      case atStart => exact ⟨0, z, Nat.zero_le _, by omega, rfl, rfl⟩
      case round =>
        obtain ⟨k', z', hk', hz', rfl, rfl⟩ := hrel
        by_cases hlt' : k' < n3
        · obtain ⟨x, rfl, hc⟩ := Hr3.out k' hlt'
          have hsz := (HX.out rfl).2.2.2.2.2.2 k' hlt'
          have i0 : (0 : Int) ≤ (k' : Int) := by omega
          have i1 : (k' : Int) < (n3 : Int) := by omega
          go_wp2
          go_round
          case rel => exact ⟨k' + 1, z' + (g k').size, by omega, by omega, by go_num, by go_num⟩
          case measure => simp [intOf]; omega
        · have hkn' : ¬ (k' : Int) < (n3 : Int) := by omega
          by_cases hT : 1048576 < z'
          · go_wp2
            go_ret
            exact ⟨rfl, Below.refl _ _⟩
          have hT' : ¬ (1048576 : Int) < (z' : Int) := by omega
          by_cases hK : 143 < tok
          · go_wp2_with (go_at_call 9; go_in)
            go_ret
            exact ⟨rfl, Below.refl _ _⟩
          have y13 : ((n3 : Int) != (n2 : Int)) = true := by simp; omega
          have y23 : (n3 != n2) = true := by simp; omega
          go_wp2_with (go_at_call 9; go_in)
          go_ret
          exact ⟨rfl, Below.refl _ _⟩
set_option maxRecDepth 100000 in
set_option maxHeartbeats 16000000 in
theorem ne4 (tok : Int) (a1 a2 a3 a4 a5 : Option Addr) (n1 n2 n3 n4 n5 c1 c2 c3 c4 c5 : Nat) (fb : Nat → Int) (f g : Nat → ByteArray) (fi : Nat → Bool) (fu : Nat → Int) (w : World)
    (r1 : IRow .u8 w a1 n1 fb) (r2 : SRow w a2 n2 f) (r3 : SRow w a3 n3 g) (r4 : BRow w a4 n4 fi) (r5 : IRow .u64 w a5 n5 fu)
    (z1 : a1 = none → n1 = 0 ∧ c1 = 0) (z2 : a2 = none → n2 = 0 ∧ c2 = 0) (z3 : a3 = none → n3 = 0 ∧ c3 = 0) (z4 : a4 = none → n4 = 0 ∧ c4 = 0) (z5 : a5 = none → n5 = 0 ∧ c5 = 0)
    (s2 : ∀ i, i < n2 → (f i).size ≤ 9223372036854775807) (s3 : ∀ i, i < n3 → (g i).size ≤ 9223372036854775807) (u0 : ∀ i, i < n5 → 0 ≤ fu i)
    (b1 : n1 ≤ 9223372036854775807) (b2 : n2 ≤ 9223372036854775807) (b3 : n3 ≤ 9223372036854775807) (b4 : n4 ≤ 9223372036854775807) (b5 : n5 ≤ 9223372036854775807) (l2 : n2 ≤ 4096) (l3 : n3 ≤ 4096) (l4 : n4 ≤ 4096) (l5 : n5 ≤ 4096) (hne3 : n3 = n2) (hne : ¬ n4 = n2) :
    Calls Try.prog 5 #[.int .u32 tok, .slice a1 n1 c1, .slice a2 n2 c2, .slice a3 n3 c3, .slice a4 n4 c4, .slice a5 n5 c5] w fun e w' => e = .returned (.bool true) ∧ Below w.heap.size w w' := by
  have Hr1 := Lib.hid r1
  have Hr2 := Lib.hid r2
  have Hr3 := Lib.hid r3
  have Hr4 := Lib.hid r4
  have Hr5 := Lib.hid r5
  have Hz1 := Lib.hid z1
  have Hz2 := Lib.hid z2
  have Hz3 := Lib.hid z3
  have Hz4 := Lib.hid z4
  have Hz5 := Lib.hid z5
  have Hs2 := Lib.hid s2
  have Hs3 := Lib.hid s3
  have Hu0 := Lib.hid u0
  clear r1 r2 r3 r4 r5 z1 z2 z3 z4 z5 s2 s3 u0
  have hq3 : n3 ≤ n2 := by omega
  have hq3' : n2 ≤ n3 := by omega
  clear hne3
  go_enter Try.func5, Try.ntmps5
  go_upto_region 3 with (first | (go_at_call 8; refine (bytes_any _ _ _ _ _ _ _ _ _ _ _ _ _ _ _ _ f g _ Hr2.out Hr3.out Hs2.out Hs3.out b1 b2 b3 b4 b5).mono ?_; rintro e w' ⟨x, rfl, hx, rfl⟩; have HX := Lib.hid hx; clear hx; cases x))
  all_goals try (go_ret; exact ⟨rfl, Below.refl _ _⟩)
  have m1 := (HX.out rfl).1
  go_wp2
  go_loop [13, 14] (fun vz vi => Sum n2 1200000 vz vi) (fun _ vi => n2 - (intOf vi).toNat)
  case atStart => exact ⟨0, n1 + 8 * n2 + 8 * n3 + n4 + 8 * n5, Nat.zero_le _, by omega, rfl, by go_num⟩
  case round =>
    obtain ⟨k, z, hk, hz, rfl, rfl⟩ := hrel
    by_cases hlt : k < n2
    · obtain ⟨x, rfl, hc⟩ := Hr2.out k hlt
      have hsz := (HX.out rfl).2.2.2.2.2.1 k hlt
      have i0 : (0 : Int) ≤ (k : Int) := by omega
      have i1 : (k : Int) < (n2 : Int) := by omega
      go_wp2
      go_round
      case rel => exact ⟨k + 1, z + (f k).size, by omega, by omega, by go_num, by go_num⟩
      case measure => simp [intOf]; omega
    · have hkn : ¬ (k : Int) < (n2 : Int) := by omega
      have hz2 : z ≤ 4300000000 := by omega
      go_wp2
      go_loop [13, 15] (fun vz vi => Sum n3 4300000000 vz vi) (fun _ vi => n3 - (intOf vi).toNat)
      case atStart => exact ⟨0, z, Nat.zero_le _, by omega, rfl, rfl⟩
      case round =>
        obtain ⟨k', z', hk', hz', rfl, rfl⟩ := hrel
        by_cases hlt' : k' < n3
        · obtain ⟨x, rfl, hc⟩ := Hr3.out k' hlt'
          have hsz := (HX.out rfl).2.2.2.2.2.2 k' hlt'
          have i0 : (0 : Int) ≤ (k' : Int) := by omega
          have i1 : (k' : Int) < (n3 : Int) := by omega
          go_wp2
          go_round
          case rel => exact ⟨k' + 1, z' + (g k').size, by omega, by omega, by go_num, by go_num⟩
          case measure => simp [intOf]; omega
        · have hkn' : ¬ (k' : Int) < (n3 : Int) := by omega
          by_cases hT : 1048576 < z'
          · go_wp2
            go_ret
            exact ⟨rfl, Below.refl _ _⟩
          have hT' : ¬ (1048576 : Int) < (z' : Int) := by omega
          by_cases hK : 143 < tok
          · go_wp2_with (go_at_call 9; go_in)
            go_ret
            exact ⟨rfl, Below.refl _ _⟩
          have y13 : ((n3 : Int) != (n2 : Int)) = false := by simp; omega
          have y23 : (n3 != n2) = false := by simp; omega
          have y14 : ((n4 : Int) != (n2 : Int)) = true := by simp; omega
          have y24 : (n4 != n2) = true := by simp; omega
          go_wp2_with (go_at_call 9; go_in)
          go_ret
          exact ⟨rfl, Below.refl _ _⟩
set_option maxRecDepth 100000 in
set_option maxHeartbeats 16000000 in
theorem ne5 (tok : Int) (a1 a2 a3 a4 a5 : Option Addr) (n1 n2 n3 n4 n5 c1 c2 c3 c4 c5 : Nat) (fb : Nat → Int) (f g : Nat → ByteArray) (fi : Nat → Bool) (fu : Nat → Int) (w : World)
    (r1 : IRow .u8 w a1 n1 fb) (r2 : SRow w a2 n2 f) (r3 : SRow w a3 n3 g) (r4 : BRow w a4 n4 fi) (r5 : IRow .u64 w a5 n5 fu)
    (z1 : a1 = none → n1 = 0 ∧ c1 = 0) (z2 : a2 = none → n2 = 0 ∧ c2 = 0) (z3 : a3 = none → n3 = 0 ∧ c3 = 0) (z4 : a4 = none → n4 = 0 ∧ c4 = 0) (z5 : a5 = none → n5 = 0 ∧ c5 = 0)
    (s2 : ∀ i, i < n2 → (f i).size ≤ 9223372036854775807) (s3 : ∀ i, i < n3 → (g i).size ≤ 9223372036854775807) (u0 : ∀ i, i < n5 → 0 ≤ fu i)
    (b1 : n1 ≤ 9223372036854775807) (b2 : n2 ≤ 9223372036854775807) (b3 : n3 ≤ 9223372036854775807) (b4 : n4 ≤ 9223372036854775807) (b5 : n5 ≤ 9223372036854775807) (l2 : n2 ≤ 4096) (l3 : n3 ≤ 4096) (l4 : n4 ≤ 4096) (l5 : n5 ≤ 4096) (hne3 : n3 = n2) (hne4 : n4 = n2) (hne : ¬ n5 = n2) :
    Calls Try.prog 5 #[.int .u32 tok, .slice a1 n1 c1, .slice a2 n2 c2, .slice a3 n3 c3, .slice a4 n4 c4, .slice a5 n5 c5] w fun e w' => e = .returned (.bool true) ∧ Below w.heap.size w w' := by
  have Hr1 := Lib.hid r1
  have Hr2 := Lib.hid r2
  have Hr3 := Lib.hid r3
  have Hr4 := Lib.hid r4
  have Hr5 := Lib.hid r5
  have Hz1 := Lib.hid z1
  have Hz2 := Lib.hid z2
  have Hz3 := Lib.hid z3
  have Hz4 := Lib.hid z4
  have Hz5 := Lib.hid z5
  have Hs2 := Lib.hid s2
  have Hs3 := Lib.hid s3
  have Hu0 := Lib.hid u0
  clear r1 r2 r3 r4 r5 z1 z2 z3 z4 z5 s2 s3 u0
  have hq3 : n3 ≤ n2 := by omega
  have hq3' : n2 ≤ n3 := by omega
  have hq4 : n4 ≤ n2 := by omega
  have hq4' : n2 ≤ n4 := by omega
  clear hne3 hne4
  go_enter Try.func5, Try.ntmps5
  go_upto_region 3 with (first | (go_at_call 8; refine (bytes_any _ _ _ _ _ _ _ _ _ _ _ _ _ _ _ _ f g _ Hr2.out Hr3.out Hs2.out Hs3.out b1 b2 b3 b4 b5).mono ?_; rintro e w' ⟨x, rfl, hx, rfl⟩; have HX := Lib.hid hx; clear hx; cases x))
  all_goals try (go_ret; exact ⟨rfl, Below.refl _ _⟩)
  have m1 := (HX.out rfl).1
  go_wp2
  go_loop [13, 14] (fun vz vi => Sum n2 1200000 vz vi) (fun _ vi => n2 - (intOf vi).toNat)
  case atStart => exact ⟨0, n1 + 8 * n2 + 8 * n3 + n4 + 8 * n5, Nat.zero_le _, by omega, rfl, by go_num⟩
  case round =>
    obtain ⟨k, z, hk, hz, rfl, rfl⟩ := hrel
    by_cases hlt : k < n2
    · obtain ⟨x, rfl, hc⟩ := Hr2.out k hlt
      have hsz := (HX.out rfl).2.2.2.2.2.1 k hlt
      have i0 : (0 : Int) ≤ (k : Int) := by omega
      have i1 : (k : Int) < (n2 : Int) := by omega
      go_wp2
      go_round
      case rel => exact ⟨k + 1, z + (f k).size, by omega, by omega, by go_num, by go_num⟩
      case measure => simp [intOf]; omega
    · have hkn : ¬ (k : Int) < (n2 : Int) := by omega
      have hz2 : z ≤ 4300000000 := by omega
      go_wp2
      go_loop [13, 15] (fun vz vi => Sum n3 4300000000 vz vi) (fun _ vi => n3 - (intOf vi).toNat)
      case atStart => exact ⟨0, z, Nat.zero_le _, by omega, rfl, rfl⟩
      case round =>
        obtain ⟨k', z', hk', hz', rfl, rfl⟩ := hrel
        by_cases hlt' : k' < n3
        · obtain ⟨x, rfl, hc⟩ := Hr3.out k' hlt'
          have hsz := (HX.out rfl).2.2.2.2.2.2 k' hlt'
          have i0 : (0 : Int) ≤ (k' : Int) := by omega
          have i1 : (k' : Int) < (n3 : Int) := by omega
          go_wp2
          go_round
          case rel => exact ⟨k' + 1, z' + (g k').size, by omega, by omega, by go_num, by go_num⟩
          case measure => simp [intOf]; omega
        · have hkn' : ¬ (k' : Int) < (n3 : Int) := by omega
          by_cases hT : 1048576 < z'
          · go_wp2
            go_ret
            exact ⟨rfl, Below.refl _ _⟩
          have hT' : ¬ (1048576 : Int) < (z' : Int) := by omega
          by_cases hK : 143 < tok
          · go_wp2_with (go_at_call 9; go_in)
            go_ret
            exact ⟨rfl, Below.refl _ _⟩
          have y13 : ((n3 : Int) != (n2 : Int)) = false := by simp; omega
          have y23 : (n3 != n2) = false := by simp; omega
          have y14 : ((n4 : Int) != (n2 : Int)) = false := by simp; omega
          have y24 : (n4 != n2) = false := by simp; omega
          have y15 : ((n5 : Int) != (n2 : Int)) = true := by simp; omega
          have y25 : (n5 != n2) = true := by simp; omega
          go_wp2_with (go_at_call 9; go_in)
          go_ret
          exact ⟨rfl, Below.refl _ _⟩
end EP
end Go.Proofs.Ytefgeoadfjghaaa
