/- The contracts of the tests and of indexedVal that the laws of n010_40 call. Conditions: the cells and lengths that each contract names. -/
import Derived.WalkKit
import Derived.WalkSpells
import Derived.WalkLawsBesides
import Derived.Lib.Hide
import Derived.Below
import Derived.Test.YtijilflnfdgdnaaDoorCloneS
import Derived.Test.YtijilflnfdgdnaaDoorCloneI
import Derived.Deep.QuietTactic
import Derived.BigQuiet
import Derived.IntWalk
import Derived.Outline
import Derived.Deep.DeepCutAuto
namespace Go.Proofs.YtijilflnfdgdnaaDoor
open Go.RowKit

/-- the bounds that a true zzBytes_ gives -/
def Small (n m : Nat) (f : Nat → ByteArray) : Prop := n ≤ 1048576 ∧ m ≤ 1048576 ∧ ∀ i, i < n → (f i).size ≤ 1048576
def Way (n : Nat) (f : Nat → ByteArray) (vz vi : Value) : Prop := ∃ k z : Nat, k ≤ n ∧ z ≤ 1048576 ∧ vi = .int .i64 k ∧ vz = .int .i64 z ∧ ∀ i, i < k → (f i).size ≤ 1048576
set_option maxHeartbeats 2000000 in
theorem bytes_any (a b : Option Addr) (n c m d : Nat) (i : Int) (f : Nat → ByteArray) (w : World) (h : SRow w a n f) (hs : ∀ i, i < n → (f i).size ≤ 9223372036854775807) (hn : n ≤ 9223372036854775807) (hm : m ≤ 9223372036854775807) :
    Calls Tryd.prog 4 #[.slice a n c, .slice b m d] w (AnyBool (Small n m f) w) := by
  have H := Lib.hid h
  have HS := Lib.hid hs
  clear h hs
  by_cases h0 : 1048576 < n
  · go_enter Tryd.func4, Tryd.ntmps4
    go_wp2
    go_ret
    exact ⟨false, rfl, (fun h => by cases h), rfl⟩
  go_enter Tryd.func4, Tryd.ntmps4
  go_wp2
  go_loop [5, 6] (fun vz vi => Way n f vz vi) (fun _ vi => n - (intOf vi).toNat)
  case atStart => exact ⟨0, n, Nat.zero_le _, by omega, rfl, rfl, fun i h => by omega⟩
  case round =>
    obtain ⟨k, z, hk, hz, rfl, rfl, hall⟩ := hrel
    have HA := Lib.hid hall
    clear hall
    by_cases hlt : k < n
    · obtain ⟨x, rfl, hc⟩ := H.out k hlt
      have hsz := HS.out k hlt
      have i0 : (0 : Int) ≤ (k : Int) := by omega
      have i1 : (k : Int) < (n : Int) := by omega
      by_cases hbig : 1048576 < (f k).size
      · go_wp2
        go_ret
        exact ⟨false, rfl, (fun h => by cases h), rfl⟩
      by_cases hsum : 1048576 < z + (f k).size
      · go_wp2
        go_ret
        exact ⟨false, rfl, (fun h => by cases h), rfl⟩
      · go_wp2
        go_round
        case rel =>
          refine ⟨k + 1, z + (f k).size, by omega, by omega, by go_num, by go_num, fun i hi => ?_⟩
          rcases Nat.lt_or_ge i k with h | h
          · exact HA.out i h
          · have : i = k := by omega
            rw [this]; omega
        case measure => simp [intOf]; omega
    · have hkn : k = n := by omega
      subst hkn
      by_cases hbig : 1048576 < m
      · go_wp2
        go_ret
        exact ⟨false, rfl, (fun h => by cases h), rfl⟩
      by_cases hsum : 1048576 < z + m
      · go_wp2
        go_ret
        exact ⟨false, rfl, (fun h => by cases h), rfl⟩
      · go_wp2
        go_ret
        exact ⟨true, rfl, (fun _ => ⟨by omega, by omega, HA.out⟩), rfl⟩
def Way2 (n : Nat) (vz vi : Value) : Prop := ∃ k z : Nat, k ≤ n ∧ z ≤ 8388608 ∧ vi = .int .i64 k ∧ vz = .int .i64 z
set_option maxHeartbeats 2000000 in
theorem strsBytes_any (a : Option Addr) (n c : Nat) (f : Nat → ByteArray) (w : World) (h : SRow w a n f) (hs : ∀ i, i < n → (f i).size ≤ 1048576) (hn : n ≤ 1048576) :
    Calls Tryd.prog 5 #[.slice a n c] w (AnyNat 16777216 w) := by
  have H := Lib.hid h
  have HS := Lib.hid hs
  clear h hs
  go_enter Tryd.func5, Tryd.ntmps5
  go_wp2
  go_loop [3, 4] (fun vz vi => Way2 n vz vi) (fun _ vi => n - (intOf vi).toNat)
  case atStart => exact ⟨0, 8 * n, Nat.zero_le _, by omega, rfl, by go_num⟩
  case round =>
    obtain ⟨k, z, hk, hz, rfl, rfl⟩ := hrel
    by_cases hlt : k < n
    · obtain ⟨x, rfl, hc⟩ := H.out k hlt
      have hsz := HS.out k hlt
      have i0 : (0 : Int) ≤ (k : Int) := by omega
      have i1 : (k : Int) < (n : Int) := by omega
      by_cases hsum : 1048576 < z + (f k).size
      · go_wp2
        go_ret
        exact ⟨2097152, rfl, by omega, rfl⟩
      · go_wp2
        go_round
        case rel => exact ⟨k + 1, z + (f k).size, by omega, by omega, by go_num, by go_num⟩
        case measure => simp [intOf]; omega
    · go_wp2
      go_ret
      exact ⟨z, rfl, by omega, rfl⟩
theorem intsBytes_any (b : Option Addr) (m d : Nat) (w : World) (hm : m ≤ 1048576) :
    Calls Tryd.prog 6 #[.slice b m d] w (AnyNat 16777216 w) := by
  go_enter Tryd.func6, Tryd.ntmps6
  go_wp2
  go_ret
  exact ⟨8 * m, by simp, by omega, rfl⟩

/-- each element is smaller than the next -/
def Inc (n : Nat) (f : Nat → Int) : Prop := ∀ i, i + 1 < n → f i < f (i + 1)
theorem inc_or (f : Nat → Int) (n : Nat) : Inc n f ∨ ∃ j, j + 1 < n ∧ (∀ i, i < j → f i < f (i + 1)) ∧ f (j + 1) ≤ f j := by
  induction n with
  | zero => exact .inl fun i h => by omega
  | succ n ih =>
    rcases ih with h | ⟨j, hj, h1, h2⟩
    · cases n with
      | zero => exact .inl fun i h => by omega
      | succ n =>
        by_cases hn : f n < f (n + 1)
        · refine .inl fun i hi => ?_
          rcases Nat.lt_or_ge (i + 1) (n + 1) with h' | h'
          · exact h i h'
          · have : i = n := by omega
            rw [this]; exact hn
        · exact .inr ⟨n, by omega, fun i hi => h i (by omega), by omega⟩
    · exact .inr ⟨j, by omega, h1, h2⟩
theorem Inc.lt {n : Nat} {f : Nat → Int} (h : Inc n f) : ∀ i j, i < j → j < n → f i < f j := by
  intro i j hij hj
  induction j with
  | zero => omega
  | succ j ih =>
    have h1 := h j hj
    rcases Nat.lt_or_ge i j with h' | h'
    · have := ih h' (by omega); omega
    · have : i = j := by omega
      rw [this]; exact h1
/-- the answer of zzIncreasing; the order of the reads was drawn -/
def Told (x : Bool) (w : World) (e : Ending) (w' : World) : Prop := e = .returned (.bool x) ∧ ∃ q, w.drewN q = w'
theorem drewN_zero (w : World) : w.drewN 0 = w := rfl
def IncWay (n : Nat) (w : World) (vi : Value) (wr : World) : Prop := ∃ k q : Nat, (k + 1 ≤ n ∨ (n = 0 ∧ k = 0)) ∧ vi = .int .i64 ((k : Int) + 1) ∧ w.drewN q = wr
set_option maxHeartbeats 2000000 in
theorem inc_yes (a : Option Addr) (n c : Nat) (f : Nat → Int) (w : World) (h : IRow .i64 w a n f) (hi : Inc n f) (hn : n ≤ 1048576) :
    Calls Tryd.prog 7 #[.slice a n c] w (Told true w) := by
  have H := Lib.hid h
  have HI := Lib.hid hi
  clear h hi
  go_enter Tryd.func7, Tryd.ntmps7
  go_wp2
  go_loopw [3] (fun vi wr => IncWay n w vi wr) (fun vi _ => n + 1 - (intOf vi).toNat)
  case atStart => exact ⟨0, 0, by omega, by simp, drewN_zero w⟩
  case round =>
    obtain ⟨k, q, hk, rfl, rfl⟩ := hrel
    by_cases hlt : k + 1 < n
    · obtain ⟨x, rfl, hc0⟩ := H.out k (by omega)
      obtain ⟨x', hx', hc1⟩ := H.out (k + 1) hlt
      obtain rfl : x = x' := by injection hx'
      clear hx'
      have hc2 : w.cell? ⟨x.block, x.off + (k + 1), none⟩ = some (.int .i64 (f (k + 1))) := by simpa [Addr.add] using hc1
      have ho := HI.out k hlt
      have i0 : (0 : Int) ≤ k := by omega
      have i1 : (k : Int) + 1 < n := by omega
      have i2 : (k : Int) < n := by omega
      have i3 : (0 : Int) ≤ (k : Int) + 1 := by omega
      have i4 : ¬ f (k + 1) ≤ f k := by omega
      have i5 : decide (f (k + 1) ≤ f k) = false := by simpa using i4
      go_upto_region 4 with fail
      have t1 : ((k : Int) + 1).toNat = k + 1 := by omega
      have t2 : IntKind.i64.wrap ((k : Int) + 1 - 1) = k := by rw [show (k : Int) + 1 - 1 = k by omega]; exact IntWalk.i64_in _ (by omega)
      have t3 : IntKind.i64.wrap (k : Int) = k := IntWalk.i64_in _ (by omega)
      have t4 : IntKind.i64.wrap ((k : Int) + 1) = k + 1 := IntWalk.i64_in _ (by omega)
      go_quiet (fail)
      clear t1 t2 t3 t4
      go_wp2
      go_roundw
      case rel => exact ⟨k + 1, _, by omega, by go_num, rfl⟩
      case measure => simp [intOf]; omega
    · go_wp2
      go_ret
      exact ⟨rfl, _, rfl⟩
set_option maxHeartbeats 2000000 in
theorem inc_no (a : Option Addr) (n c j : Nat) (f : Nat → Int) (w : World) (h : IRow .i64 w a n f) (hj : j + 1 < n) (hi : ∀ i, i < j → f i < f (i + 1)) (hf : f (j + 1) ≤ f j) (hn : n ≤ 1048576) :
    Calls Tryd.prog 7 #[.slice a n c] w (Told false w) := by
  have H := Lib.hid h
  have HI := Lib.hid hi
  have HF := Lib.hid hf
  clear h hi hf
  go_enter Tryd.func7, Tryd.ntmps7
  go_wp2
  go_loopw [3] (fun vi wr => IncWay (j + 1) w vi wr) (fun vi _ => n + 1 - (intOf vi).toNat)
  case atStart => exact ⟨0, 0, by omega, by simp, drewN_zero w⟩
  case round =>
    obtain ⟨k, q, hk, rfl, rfl⟩ := hrel
    obtain ⟨x, rfl, hc0⟩ := H.out k (by omega)
    obtain ⟨x', hx', hc1⟩ := H.out (k + 1) (by omega)
    obtain rfl : x = x' := by injection hx'
    clear hx'
    have hc2 : w.cell? ⟨x.block, x.off + (k + 1), none⟩ = some (.int .i64 (f (k + 1))) := by simpa [Addr.add] using hc1
    have i0 : (0 : Int) ≤ k := by omega
    have i1 : (k : Int) + 1 < n := by omega
    have i2 : (k : Int) < n := by omega
    have i3 : (0 : Int) ≤ (k : Int) + 1 := by omega
    by_cases hlt : k < j
    · have ho := HI.out k hlt
      have i4 : ¬ f (k + 1) ≤ f k := by omega
      have i5 : decide (f (k + 1) ≤ f k) = false := by simpa using i4
      go_upto_region 4 with fail
      have t1 : ((k : Int) + 1).toNat = k + 1 := by omega
      have t2 : IntKind.i64.wrap ((k : Int) + 1 - 1) = k := by rw [show (k : Int) + 1 - 1 = k by omega]; exact IntWalk.i64_in _ (by omega)
      have t3 : IntKind.i64.wrap (k : Int) = k := IntWalk.i64_in _ (by omega)
      have t4 : IntKind.i64.wrap ((k : Int) + 1) = k + 1 := IntWalk.i64_in _ (by omega)
      go_quiet (fail)
      clear t1 t2 t3 t4
      go_wp2
      go_roundw
      case rel => exact ⟨k + 1, _, by omega, by go_num, rfl⟩
      case measure => simp [intOf]; omega
    · have e : k = j := by omega
      have hq : f (k + 1) ≤ f k := by rw [e]; exact HF.out
      clear e
      go_upto_region 4 with fail
      have t1 : ((k : Int) + 1).toNat = k + 1 := by omega
      have t2 : IntKind.i64.wrap ((k : Int) + 1 - 1) = k := by rw [show (k : Int) + 1 - 1 = k by omega]; exact IntWalk.i64_in _ (by omega)
      have t3 : IntKind.i64.wrap (k : Int) = k := IntWalk.i64_in _ (by omega)
      have t4 : IntKind.i64.wrap ((k : Int) + 1) = k + 1 := IntWalk.i64_in _ (by omega)
      go_quiet (fail)
      clear t1 t2 t3 t4
      go_wp2
      go_ret
      exact ⟨rfl, _, (World.drewN_drewN _ _ _).symm⟩
end Go.Proofs.YtijilflnfdgdnaaDoor
