/- The contract of a function that copies a slice (n010_75.zzCloneBytes): nil stays nil, another slice becomes a new row of the same elements. Conditions: the cells and the length that the contract names. -/
import Derived.Test.YtknilfihibmgdaaRows
import Derived.WalkKit
import Derived.WalkSpells
import Derived.WalkLawsBesides
import Derived.Lib.Hide
import Derived.OwnWalk
import Derived.Below
namespace Go.Proofs.Ytknilfihibmgdaa
namespace CB
open Go.RowKit

theorem sl_neq (w : World) (a : Option Addr) (n c : Nat) : (binOp .neq 54 (.slice a n c) (.slice none 0 0)).run Try.prog w = .ok (.bool (!a.isNone)) w := run_neq_slice_nil_any w 54 5 a n c 0 0 Try.underlying54
theorem sl_eql (w : World) (a : Option Addr) (n c : Nat) : (binOp .eql 54 (.slice a n c) (.slice none 0 0)).run Try.prog w = .ok (.bool a.isNone) w := Lib.run_eql_slice_nil w 54 5 a n c 0 0 Try.underlying54
theorem infoE : (Try.prog.info? 5).map (fun i => (i.zero, i.size, i.bytes)) = some (some (.int .u8 0), 1, 1) := by kernel_rfl
/-- the first k elements of f in front of what is not yet written -/
def cRow (f : Nat → Int) (k n : Nat) : List Value := (List.range k).map (fun i => .int .u8 (f i)) ++ List.replicate (n - k) (.int .u8 0)
theorem cRow_zero (f : Nat → Int) (n : Nat) : cRow f 0 n = List.replicate n (.int .u8 0) := by simp [cRow]
theorem cRow_set (f : Nat → Int) (k n : Nat) (h : k < n) : (cRow f k n).set k (.int .u8 (f k)) = cRow f (k + 1) n := by
  unfold cRow
  rw [List.set_append_right _ _ (by simp)]
  simp only [List.length_map, List.length_range, Nat.sub_self]
  rw [show n - k = (n - (k + 1)) + 1 by omega, List.replicate_succ, List.set_cons_zero, List.range_succ, List.map_append, List.append_assoc]
  rfl
theorem cRow_at (f : Nat → Int) (k n j : Nat) (h : j < n) (hk : k ≤ n) : ∃ v, (cRow f k n)[j]? = some v := by
  have : j < (cRow f k n).length := by simp [cRow]; omega
  exact ⟨_, List.getElem?_eq_getElem this⟩
theorem cRow_full (f : Nat → Int) (n j : Nat) (h : j < n) : (cRow f n n)[j]? = some (.int .u8 (f j)) := by
  simp [cRow, h]
theorem cell_add {x : Addr} {i : Nat} : (x.add i).block = x.block := by unfold Addr.add; split <;> rfl
/-- what a copy leaves -/
def Cloned (n : Nat) (f : Nat → Int) (w : World) (e : Ending) (w' : World) : Prop :=
  e = .returned (.slice (some ⟨w.heap.size, 0, none⟩) n n) ∧ w'.ownsRow w.heap.size 5 1 (.slice (some ⟨w.heap.size, 0, none⟩) n n) n (cRow f n n) ∧ (∀ i, i < n → w'.cell? ⟨w.heap.size, i, none⟩ = some (.int .u8 (f i))) ∧ Below w.heap.size w w'
set_option maxRecDepth 100000 in
set_option maxHeartbeats 2000000 in
theorem clone_row (x : Addr) (n c : Nat) (f : Nat → Int) (w : World) (hx : 0 < n → x.block < w.heap.size) (hs : ∀ i, i < n → w.cell? (x.add i) = some (.int .u8 (f i))) (hn : n ≤ 1048576) :
    Calls Try.prog 26 #[.slice (some x) n c] w (Cloned n f w) := by
  have HS := Lib.hid hs
  clear hs
  obtain ⟨ii, hi, hz0, hz1, hz2⟩ := info_parts infoE
  have q1 := sl_eql
  go_enter Try.func26, Try.ntmps26
  go_wp2_with (at_make; refine wpList_make_full _ rfl _ _ _ rfl w.heap.size 5 ii (.int .u8 0) 1 Try.underlying54 hi hz0 hz1 .i64 .i64 _ _ n rfl rfl rfl rfl (by rw [hz2]; omega) (by unfold maxLen; omega) (Nat.le_refl _) ?_; intro w1 hown hgrow)
  have hown0 : w1.ownsRow w.heap.size 5 1 (.slice (some ⟨w.heap.size, 0, none⟩) n n) n (cRow f 0 n) := by
    rw [cRow_zero, ← toList_madeCells_one]
    have := hown
    simp only [Nat.mul_one] at this
    exact this
  have hB : Below w.heap.size w w1 := (Below.refl _ _).grown hgrow (Nat.le_refl _) (fun k hk => by cases hk)
  clear hown hgrow
  go_loopw [4] (fun i wr => ∃ k : Nat, k ≤ n ∧ i = .int .i64 k ∧ wr.ownsRow w.heap.size 5 1 (.slice (some ⟨w.heap.size, 0, none⟩) n n) n (cRow f k n) ∧ Below w.heap.size w wr) (fun i _ => n - (intOf i).toNat)
  case atStart => exact ⟨0, Nat.zero_le _, rfl, hown0, hB⟩
  case round =>
    obtain ⟨k, hk, rfl, hown, hb⟩ := hrel
    have HO := Lib.hid hown
    have HB := Lib.hid hb
    by_cases hlt : k < n
    · obtain ⟨v, hv⟩ := cRow_at f k n k hlt hk
      have hc := hown.cellAt k (by omega)
      rw [hv] at hc
      have hf := hown.frozenAt k
      have hsrc : wr.cell? (x.add k) = some (.int .u8 (f k)) := (hb.cell (p := x.add k) (by rw [cell_add]; exact hx (by omega))).trans (HS.out k hlt)
      have i0 : (0 : Int) ≤ (k : Int) := by omega
      have i1 : (k : Int) < (n : Int) := by omega
      clear hown hb hv hown0 hB
      go_wp2
      go_roundw
      case rel => exact ⟨k + 1, by omega, by go_num, by rw [← cRow_set f k n hlt]; exact (HO.out.stored k _).1, HB.out.setCell (Nat.le_refl _) _⟩
      case measure => simp [intOf]; omega
    · have hkn : k = n := by omega
      rw [hkn] at hown
      have hcs : ∀ i, i < n → wr.cell? ⟨w.heap.size, i, none⟩ = some (.int .u8 (f i)) := fun i hi => by
        have := hown.cellAt i (by omega)
        rw [cRow_full _ _ _ hi] at this
        exact this
      have HCS := Lib.hid hcs
      have HO' := Lib.hid hown
      clear hown hb hown0 hB hcs HO hkn
      go_wp2
      go_ret
      exact ⟨rfl, HO'.out, HCS.out, HB.out⟩
theorem clone_nil (w : World) : Calls Try.prog 26 #[.slice none 0 0] w fun e w' => e = .returned (.slice none 0 0) ∧ w = w' := by
  have q1 := sl_eql
  go_enter Try.func26, Try.ntmps26
  go_wp2
  go_ret
  exact ⟨rfl, rfl⟩
end CB
end Go.Proofs.Ytknilfihibmgdaa
