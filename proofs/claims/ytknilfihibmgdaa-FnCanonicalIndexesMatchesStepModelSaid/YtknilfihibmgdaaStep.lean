/- The contracts of zzStepDense_b1, zzSameInts_b1 and zzCloneInts_b1 at a row of integers. Conditions: the cells and the length that each contract names. -/
import Derived.Test.YtknilfihibmgdaaCanon
import Derived.Deep.DeepCutAuto
namespace Go.Proofs.Ytknilfihibmgdaa
open Go.RowKit

theorem below_drewN {B : Nat} {a w : World} (h : Below B a w) (n : Nat) : Below B a (w.drewN n) := ⟨h.os, h.tape, h.output, h.size, h.block⟩
set_option maxHeartbeats 1000000 in
theorem step_dense (b n c : Nat) (f : Nat → Int) (w : World) (hc : ∀ i, i < n → w.cell? ⟨b, i, none⟩ = some (.int .i64 (f i))) (hd : ∀ i, i < n → f i = i) (hn : n ≤ 131072) :
    Calls Try.prog 33 #[.slice (some ⟨b, 0, none⟩) n c] w fun e w' => e = .returned (.bool true) ∧ w.heap = w'.heap ∧ Below w.heap.size w w' := by
  have HC := Lib.hid hc
  have HD := Lib.hid hd
  clear hc hd
  by_cases h0 : n = 0
  · subst h0
    go_enter Try.func33, Try.ntmps33
    go_wp2
    go_ret
    exact ⟨rfl, rfl, Below.refl _ _⟩
  have hz : ((n : Int) == 0) = false := by simpa using h0
  have hc0 := HC.out 0 (by omega)
  rw [HD.out 0 (by omega)] at hc0
  have z1 : (0 : Int) < n := by omega
  go_enter Try.func33, Try.ntmps33
  go_wp2
  go_loopw [3] (fun i wr => ∃ m : Nat, m + 1 ≤ n ∧ i = .int .i64 ((m : Int) + 1) ∧ w.heap = wr.heap ∧ Below w.heap.size w wr) (fun i _ => n - (intOf i).toNat)
  case atStart => exact ⟨0, by omega, rfl, rfl, Below.refl _ _⟩
  case round =>
    obtain ⟨m, hk, rfl, hh, hb⟩ := hrel
    have HB := Lib.hid hb
    have HH := Lib.hid hh
    clear hb hh
    by_cases hlt : m + 1 < n
    · have hcw : ∀ a, wr.cell? a = w.cell? a := fun a => by unfold World.cell?; rw [HH.out]
      have hc1 : wr.cell? ⟨b, m + 1, none⟩ = some (.int .i64 ((m : Int) + 1)) := by rw [hcw, HC.out (m + 1) hlt, HD.out (m + 1) hlt]; rfl
      have hc2 : wr.cell? ⟨b, m, none⟩ = some (.int .i64 (m : Int)) := by rw [hcw, HC.out m (by omega), HD.out m (by omega)]
      clear hcw hc0
      have i0 : (0 : Int) ≤ m := by omega
      have i1 : (m : Int) + 1 < n := by omega
      have i2 : (m : Int) < n := by omega
      have i3 : (0 : Int) ≤ (m : Int) + 1 := by omega
      go_upto_region 8 with fail
      have t1 : ((m : Int) + 1).toNat = m + 1 := by omega
      have t2 : IntKind.i64.wrap ((m : Int) + 1 - 1) = m := by rw [show (m : Int) + 1 - 1 = m by omega]; exact IntWalk.i64_in _ (by omega)
      have t3 : IntKind.i64.wrap (m : Int) = m := IntWalk.i64_in _ (by omega)
      have t4 : IntKind.i64.wrap ((m : Int) + 1) = m + 1 := IntWalk.i64_in _ (by omega)
      go_quiet (fail)
      clear t1 t2 t3 t4
      go_wp2
      go_roundw
      case rel => exact ⟨m + 1, by omega, by go_num, HH.out, below_drewN HB.out _⟩
      case measure => simp [intOf]; omega
    · go_wp2
      go_ret
      exact ⟨rfl, HH.out, HB.out⟩

set_option maxHeartbeats 1000000 in
theorem step_not0 (b n c : Nat) (f : Nat → Int) (w : World) (hc0 : w.cell? ⟨b, 0, none⟩ = some (.int .i64 (f 0))) (hj : 0 < n) (hne : (f 0 == 0) = false) (hn : n ≤ 131072) :
    Calls Try.prog 33 #[.slice (some ⟨b, 0, none⟩) n c] w fun e w' => e = .returned (.bool false) ∧ w = w' := by
  have hz : ((n : Int) == 0) = false := by simp; omega
  have z1 : (0 : Int) < n := by omega
  go_enter Try.func33, Try.ntmps33
  go_wp2
  go_ret
  exact ⟨rfl, rfl⟩
set_option maxHeartbeats 1000000 in
theorem step_not (b n c j : Nat) (f : Nat → Int) (w : World) (hc : ∀ i, i < n → w.cell? ⟨b, i, none⟩ = some (.int .i64 (f i))) (hj : j + 1 < n) (hd : ∀ i, i < j + 1 → f i = i) (hne : ¬ f (j + 1) = (j : Int) + 1) (hn : n ≤ 131072) :
    Calls Try.prog 33 #[.slice (some ⟨b, 0, none⟩) n c] w fun e w' => e = .returned (.bool false) ∧ w.heap = w'.heap ∧ Below w.heap.size w w' := by
  have hz : ((n : Int) == 0) = false := by simp; omega
  have hc0 := hc 0 (by omega)
  rw [hd 0 (by omega)] at hc0
  have HC := Lib.hid hc
  have HD := Lib.hid hd
  have HN := Lib.hid hne
  clear hc hd hne
  have z1 : (0 : Int) < n := by omega
  go_enter Try.func33, Try.ntmps33
  go_wp2
  go_loopw [3] (fun i wr => ∃ m : Nat, m ≤ j ∧ i = .int .i64 ((m : Int) + 1) ∧ w.heap = wr.heap ∧ Below w.heap.size w wr) (fun i _ => n - (intOf i).toNat)
  case atStart => exact ⟨0, by omega, rfl, rfl, Below.refl _ _⟩
  case round =>
    obtain ⟨m, hk, rfl, hh, hb⟩ := hrel
    have HB := Lib.hid hb
    have HH := Lib.hid hh
    clear hb hh
    have hcw : ∀ a, wr.cell? a = w.cell? a := fun a => by unfold World.cell?; rw [HH.out]
    have hc2 : wr.cell? ⟨b, m, none⟩ = some (.int .i64 (m : Int)) := by rw [hcw, HC.out m (by omega), HD.out m (by omega)]
    have i0 : (0 : Int) ≤ m := by omega
    have i1 : (m : Int) + 1 < n := by omega
    have i2 : (m : Int) < n := by omega
    have i3 : (0 : Int) ≤ (m : Int) + 1 := by omega
    by_cases hlt : m < j
    · have hc1 : wr.cell? ⟨b, m + 1, none⟩ = some (.int .i64 ((m : Int) + 1)) := by rw [hcw, HC.out (m + 1) (by omega), HD.out (m + 1) (by omega)]; rfl
      clear hcw hc0
      go_upto_region 8 with fail
      have t1 : ((m : Int) + 1).toNat = m + 1 := by omega
      have t2 : IntKind.i64.wrap ((m : Int) + 1 - 1) = m := by rw [show (m : Int) + 1 - 1 = m by omega]; exact IntWalk.i64_in _ (by omega)
      have t3 : IntKind.i64.wrap (m : Int) = m := IntWalk.i64_in _ (by omega)
      have t4 : IntKind.i64.wrap ((m : Int) + 1) = m + 1 := IntWalk.i64_in _ (by omega)
      go_quiet (fail)
      clear t1 t2 t3 t4
      go_wp2
      go_roundw
      case rel => exact ⟨m + 1, by omega, by go_num, HH.out, below_drewN HB.out _⟩
      case measure => simp [intOf]; omega
    · have e : m = j := by omega
      have hc1 : wr.cell? ⟨b, m + 1, none⟩ = some (.int .i64 (f (m + 1))) := by rw [hcw, HC.out (m + 1) (by omega)]
      have hq : (f (m + 1) == (m : Int) + 1) = false := by rw [e]; simpa using HN.out
      clear hcw hc0 e
      go_upto_region 8 with fail
      have t1 : ((m : Int) + 1).toNat = m + 1 := by omega
      have t2 : IntKind.i64.wrap ((m : Int) + 1 - 1) = m := by rw [show (m : Int) + 1 - 1 = m by omega]; exact IntWalk.i64_in _ (by omega)
      have t3 : IntKind.i64.wrap (m : Int) = m := IntWalk.i64_in _ (by omega)
      have t4 : IntKind.i64.wrap ((m : Int) + 1) = m + 1 := IntWalk.i64_in _ (by omega)
      go_quiet (fail)
      clear t1 t2 t3 t4
      go_wp2
      go_ret
      exact ⟨rfl, HH.out, below_drewN HB.out _⟩
set_option maxHeartbeats 1000000 in
theorem same_self (b n c : Nat) (f : Nat → Int) (w : World) (hc : ∀ i, i < n → w.cell? ⟨b, i, none⟩ = some (.int .i64 (f i))) (hn : n ≤ 131072) :
    Calls Try.prog 34 #[.slice (some ⟨b, 0, none⟩) n c, .slice (some ⟨b, 0, none⟩) n c] w fun e w' => e = .returned (.bool true) ∧ w.heap = w'.heap ∧ Below w.heap.size w w' := by
  have HC := Lib.hid hc
  clear hc
  go_enter Try.func34, Try.ntmps34
  go_wp2
  go_loopw [5] (fun i wr => ∃ k : Nat, k ≤ n ∧ i = .int .i64 k ∧ w.heap = wr.heap ∧ Below w.heap.size w wr) (fun i _ => n - (intOf i).toNat)
  case atStart => exact ⟨0, Nat.zero_le _, rfl, rfl, Below.refl _ _⟩
  case round =>
    obtain ⟨k, hk, rfl, hh, hb⟩ := hrel
    have HB := Lib.hid hb
    have HH := Lib.hid hh
    clear hb hh
    by_cases hlt : k < n
    · have hc1 : wr.cell? ⟨b, k, none⟩ = some (.int .i64 (f k)) := by
        have hcw : ∀ a, wr.cell? a = w.cell? a := fun a => by unfold World.cell?; rw [HH.out]
        rw [hcw, HC.out k hlt]
      have i0 : (0 : Int) ≤ k := by omega
      have i1 : (k : Int) < n := by omega
      go_upto_region 6 with fail
      go_quiet (fail)
      go_wp2
      go_roundw
      case rel => exact ⟨k + 1, by omega, by go_num, HH.out, below_drewN HB.out _⟩
      case measure => simp [intOf]; omega
    · go_wp2
      go_ret
      exact ⟨rfl, HH.out, HB.out⟩
theorem cell_add {x : Addr} {i : Nat} : (x.add i).block = x.block := by unfold Addr.add; split <;> rfl
set_option maxRecDepth 100000 in
set_option maxHeartbeats 2000000 in
theorem clone_row (x : Addr) (n c : Nat) (f : Nat → Int) (w : World) (hx : 0 < n → x.block < w.heap.size) (hs : ∀ i, i < n → w.cell? (x.add i) = some (.int .i64 (f i))) (hn : n ≤ 131072) :
    Calls Try.prog 31 #[.slice (some x) n c] w fun e w' => e = .returned (.slice (some ⟨w.heap.size, 0, none⟩) n n) ∧ (∀ i, i < n → w'.cell? ⟨w.heap.size, i, none⟩ = some (.int .i64 (f i))) ∧ Below w.heap.size w w' := by
  have HS := Lib.hid hs
  clear hs
  obtain ⟨ii, hi, hz0, hz1, hz2⟩ := info_parts infoInt
  have q1 := sl_eql
  go_enter Try.func31, Try.ntmps31
  go_wp2_with (at_make; refine wpList_make_full _ rfl _ _ _ rfl w.heap.size 3 ii (.int .i64 0) 1 Try.underlying45 hi hz0 hz1 .i64 .i64 _ _ n rfl rfl rfl rfl (by rw [hz2]; omega) (by unfold maxLen; omega) (Nat.le_refl _) ?_; intro w1 hown hgrow)
  have hown0 : w1.ownsRow w.heap.size 3 1 (.slice (some ⟨w.heap.size, 0, none⟩) n n) n (cRow f 0 n) := by
    rw [cRow_zero, ← toList_madeCells_one]
    have := hown
    simp only [Nat.mul_one] at this
    exact this
  have hB : Below w.heap.size w w1 := (Below.refl _ _).grown hgrow (Nat.le_refl _) (fun k hk => by cases hk)
  clear hown hgrow
  go_loopw [4] (fun i wr => ∃ k : Nat, k ≤ n ∧ i = .int .i64 k ∧ wr.ownsRow w.heap.size 3 1 (.slice (some ⟨w.heap.size, 0, none⟩) n n) n (cRow f k n) ∧ Below w.heap.size w wr) (fun i _ => n - (intOf i).toNat)
  case atStart => exact ⟨0, Nat.zero_le _, rfl, hown0, hB⟩
  case round =>
    obtain ⟨k, hk, rfl, hown, hb⟩ := hrel
    have HO := Lib.hid hown
    have HB := Lib.hid hb
    by_cases hlt : k < n
    · obtain ⟨v, hv⟩ := cRow_at f k n k hlt hk
      have hc := hown.cellAt k (by omega)
      rw [hv] at hc
      have hf := hown.frozenAt k
      have hsrc : wr.cell? (x.add k) = some (.int .i64 (f k)) := (hb.cell (p := x.add k) (by rw [cell_add]; exact hx (by omega))).trans (HS.out k hlt)
      have i0 : (0 : Int) ≤ (k : Int) := by omega
      have i1 : (k : Int) < (n : Int) := by omega
      clear hown hb hv hown0 hB
      go_wp2
      go_roundw
      case rel => exact ⟨k + 1, by omega, by go_num, by rw [← cRow_set f k n hlt]; exact (HO.out.stored k _).1, HB.out.setCell (Nat.le_refl _) _⟩
      case measure => simp [intOf]; omega
    · have hkn : k = n := by omega
      rw [hkn] at hown
      have hcs : ∀ i, i < n → wr.cell? ⟨w.heap.size, i, none⟩ = some (.int .i64 (f i)) := fun i hi => by
        have := hown.cellAt i (by omega)
        rw [cRow_full _ _ _ hi] at this
        exact this
      have HCS := Lib.hid hcs
      clear hown hb hown0 hB hcs HO hkn
      go_wp2
      go_ret
      exact ⟨rfl, HCS.out, HB.out⟩
theorem clone_nil (w : World) : Calls Try.prog 31 #[.slice none 0 0] w fun e w' => e = .returned (.slice none 0 0) ∧ w = w' := by
  have q1 := sl_eql
  go_enter Try.func31, Try.ntmps31
  go_wp2
  go_ret
  exact ⟨rfl, rfl⟩
theorem canon_nil (w : World) : Calls Try.prog 32 #[.slice none 0 0] w fun e w' => e = .returned (.slice none 0 0) ∧ w = w' := by
  go_enter Try.func32, Try.ntmps32
  go_wp2
  go_loop [7] (fun i => i = .int .i64 0) (fun i => 0 - (intOf i).toNat)
  case atStart => rfl
  case round =>
    obtain rfl := hrel
    go_wp2
    go_ret
    exact ⟨rfl, rfl⟩
theorem step_nil (w : World) : Calls Try.prog 33 #[.slice none 0 0] w fun e w' => e = .returned (.bool true) ∧ w = w' := by
  go_enter Try.func33, Try.ntmps33
  go_wp2
  go_ret
  exact ⟨rfl, rfl⟩
theorem bytes_any (a : Option Addr) (n c : Nat) (w : World) (hn : n ≤ 1048576) : Calls Try.prog 30 #[.slice a n c] w fun e w' => e = .returned (.bool true) ∧ w = w' := by
  have h1 : ¬ (1048576 : Int) < n := by omega
  go_enter Try.func30, Try.ntmps30
  go_wp2
  go_ret
  exact ⟨rfl, rfl⟩
theorem bytes_big (a : Option Addr) (n c : Nat) (w : World) (hn : 1048576 < n) : Calls Try.prog 30 #[.slice a n c] w fun e w' => e = .returned (.bool false) ∧ w = w' := by
  have h1 : (1048576 : Int) < n := by omega
  go_enter Try.func30, Try.ntmps30
  go_wp2
  go_ret
  exact ⟨rfl, rfl⟩
end Go.Proofs.Ytknilfihibmgdaa
