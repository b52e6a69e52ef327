/- The contracts of CanonicalIndexes, zzStepDense_b1, zzSameInts_b1 and zzCloneInts_b1 at a row of integers. Conditions: the cells and the length that each contract names. -/
import Derived.Test.YtknilfihibmgdaaRows
import Derived.WalkKit
import Derived.WalkSpells
import Derived.WalkLawsBesides
import Derived.Lib.Hide
import Derived.OwnWalk
import Derived.Deep.QuietTactic
import Derived.BigQuiet
import Derived.IntWalk
import Derived.Below
namespace Go.Proofs.Ytknilfihibmgdaa
open Go.RowKit

theorem sl_neq (w : World) (a : Option Addr) (n c : Nat) : (binOp .neq 45 (.slice a n c) (.slice none 0 0)).run Try.prog w = .ok (.bool (!a.isNone)) w := run_neq_slice_nil_any w 45 3 a n c 0 0 Try.underlying45
theorem sl_eql (w : World) (a : Option Addr) (n c : Nat) : (binOp .eql 45 (.slice a n c) (.slice none 0 0)).run Try.prog w = .ok (.bool a.isNone) w := Lib.run_eql_slice_nil w 45 3 a n c 0 0 Try.underlying45
set_option maxHeartbeats 1000000 in
theorem canon_dense (b n c : Nat) (f : Nat → Int) (w : World) (hc : ∀ i, i < n → w.cell? ⟨b, i, none⟩ = some (.int .i64 (f i))) (hd : ∀ i, i < n → f i = i) (hn : n ≤ 131072) :
    Calls Try.prog 32 #[.slice (some ⟨b, 0, none⟩) n c] w fun e w' => e = .returned (.slice none 0 0) ∧ w = w' := by
  have HC := Lib.hid hc
  have HD := Lib.hid hd
  clear hc hd
  go_enter Try.func32, Try.ntmps32
  go_wp2
  go_loop [7] (fun i => ∃ k : Nat, k ≤ n ∧ i = .int .i64 k) (fun i => n - (intOf i).toNat)
  case atStart => exact ⟨0, Nat.zero_le _, rfl⟩
  case round =>
    obtain ⟨k, hk, rfl⟩ := hrel
    by_cases hlt : k < n
    · have hc := HC.out k hlt
      rw [HD.out k hlt] at hc
      have i0 : (0 : Int) ≤ k := by omega
      have i1 : (k : Int) < n := by omega
      go_wp2
      go_round
      case rel => exact ⟨k + 1, by omega, by go_num⟩
      case measure => simp [intOf]; omega
    · go_wp2
      go_ret
      exact ⟨rfl, rfl⟩
set_option maxHeartbeats 1000000 in
theorem canon_not (b n c j : Nat) (f : Nat → Int) (w : World) (hc : ∀ i, i < n → w.cell? ⟨b, i, none⟩ = some (.int .i64 (f i))) (hj : j < n) (hd : ∀ i, i < j → f i = i) (hne : ¬ f j = j) (hn : n ≤ 131072) :
    Calls Try.prog 32 #[.slice (some ⟨b, 0, none⟩) n c] w fun e w' => e = .returned (.slice (some ⟨b, 0, none⟩) n c) ∧ w = w' := by
  have HC := Lib.hid hc
  have HD := Lib.hid hd
  have HN := Lib.hid hne
  clear hc hd hne
  go_enter Try.func32, Try.ntmps32
  go_wp2
  go_loop [7] (fun i => ∃ k : Nat, k ≤ j ∧ i = .int .i64 k) (fun i => n - (intOf i).toNat)
  case atStart => exact ⟨0, Nat.zero_le _, rfl⟩
  case round =>
    obtain ⟨k, hk, rfl⟩ := hrel
    have hkn : k < n := by omega
    have hc := HC.out k hkn
    have i0 : (0 : Int) ≤ k := by omega
    have i1 : (k : Int) < n := by omega
    by_cases hlt : k < j
    · rw [HD.out k hlt] at hc
      go_wp2
      go_round
      case rel => exact ⟨k + 1, by omega, by go_num⟩
      case measure => simp [intOf]; omega
    · have hb : (f k == (k : Int)) = false := by
        have e : k = j := by omega
        rw [e]; simpa using HN.out
      go_wp2
      go_ret
      exact ⟨rfl, rfl⟩

theorem infoInt : (Try.prog.info? 3).map (fun i => (i.zero, i.size, i.bytes)) = some (some (.int .i64 0), 1, 8) := by kernel_rfl
/-- the first k numbers of f in front of what is not yet written -/
def cRow (f : Nat → Int) (k n : Nat) : List Value := (List.range k).map (fun i => .int .i64 (f i)) ++ List.replicate (n - k) (.int .i64 0)
theorem cRow_zero (f : Nat → Int) (n : Nat) : cRow f 0 n = List.replicate n (.int .i64 0) := by simp [cRow]
theorem cRow_set (f : Nat → Int) (k n : Nat) (h : k < n) : (cRow f k n).set k (.int .i64 (f k)) = cRow f (k + 1) n := by
  unfold cRow
  rw [List.set_append_right _ _ (by simp)]
  simp only [List.length_map, List.length_range, Nat.sub_self]
  rw [show n - k = (n - (k + 1)) + 1 by omega, List.replicate_succ, List.set_cons_zero, List.range_succ, List.map_append, List.append_assoc]
  rfl
theorem cRow_at (f : Nat → Int) (k n j : Nat) (h : j < n) (hk : k ≤ n) : ∃ v, (cRow f k n)[j]? = some v := by
  have : j < (cRow f k n).length := by simp [cRow]; omega
  exact ⟨_, List.getElem?_eq_getElem this⟩
theorem cRow_full (f : Nat → Int) (n j : Nat) (h : j < n) : (cRow f n n)[j]? = some (.int .i64 (f j)) := by
  simp [cRow, h]
end Go.Proofs.Ytknilfihibmgdaa
