/- The contracts that the laws of n010_74 go through: ZZnewPos_n010_74, zzValid, posAddCol at every position, Block.End, WhileClause.End and WhileClause.Pos; n single steps (it). Conditions: the bounds and cells that each contract names. -/
import Derived.Test.YtknilfihibmgdaaPos
namespace Go.Proofs.Ytknilfihibmgdaa
open Go.RowKit

theorem newPos74 (o lc : Int) (w : World) :
    Calls Try.prog 13 #[.int .u32 o, .int .u32 lc] w fun e w' => e = .returned (posV o lc) ∧ w.alloc (posC o lc) = w' := by
  go_enter Try.func13, Try.ntmps13
  go_wp2
  exact bodyPost_ret (by simp [results, Try.results13, go_sem]) rfl ⟨rfl, rfl⟩
theorem valid74 (o lc : Int) (w : World) :
    Calls Try.prog 12 #[.int .u32 o, .int .u32 lc] w fun e w' => e = .returned (.bool (validB o lc)) ∧ w = w' := by
  have eo : validB o lc = (decide (o ≤ 4294967284) && (lc != 0)) := rfl
  by_cases ho : o ≤ 4294967284
  · rw [decide_eq_true ho, Bool.true_and] at eo
    rw [eo]
    clear eo
    go_enter Try.func12, Try.ntmps12
    go_wp2
    go_ret
    exact ⟨rfl, rfl⟩
  · rw [decide_eq_false ho, Bool.false_and] at eo
    rw [eo]
    clear eo
    go_enter Try.func12, Try.ntmps12
    go_wp2
    go_ret
    exact ⟨rfl, rfl⟩
def reachB (o lc : Int) : Bool := decide (o ≤ 4294967284) || ((o == 4294967285) && (lc == 0))
theorem reach74 (o lc : Int) (w : World) :
    Calls Try.prog 11 #[.int .u32 o, .int .u32 lc] w fun e w' => e = .returned (.bool (reachB o lc)) ∧ w = w' := by
  have eo : reachB o lc = (decide (o ≤ 4294967284) || ((o == 4294967285) && (lc == 0))) := rfl
  by_cases ho : o ≤ 4294967284
  · rw [decide_eq_true ho, Bool.true_or] at eo
    rw [eo]
    clear eo
    go_enter Try.func11, Try.ntmps11
    go_wp2
    go_ret
    exact ⟨rfl, rfl⟩
  · rw [decide_eq_false ho, Bool.false_or] at eo
    rcases Bool.eq_false_or_eq_true (o == 4294967285) with hq | hq
    · rw [hq, Bool.true_and] at eo
      rw [eo]
      clear eo
      go_enter Try.func11, Try.ntmps11
      go_wp2
      go_ret
      exact ⟨rfl, rfl⟩
    · rw [hq, Bool.false_and] at eo
      rw [eo]
      clear eo
      go_enter Try.func11, Try.ntmps11
      go_wp2
      go_ret
      exact ⟨rfl, rfl⟩
def avO (o lc n : Int) : Int := if validB o lc = true then addO o n else o
def avL (o lc n : Int) : Int := if validB o lc = true then addLC lc n else lc
theorem avO_t {o lc n : Int} (h : validB o lc = true) : avO o lc n = addO o n := if_pos h
theorem avL_t {o lc n : Int} (h : validB o lc = true) : avL o lc n = addLC lc n := if_pos h
theorem avO_f {o lc n : Int} (h : validB o lc = false) : avO o lc n = o := if_neg (by rw [h]; decide)
theorem avL_f {o lc n : Int} (h : validB o lc = false) : avL o lc n = lc := if_neg (by rw [h]; decide)
theorem valid_le {o lc : Int} (h : validB o lc = true) : o ≤ 4294967284 := by
  simp only [validB, Bool.and_eq_true, decide_eq_true_eq] at h; exact h.1
theorem avO_bd {o lc n : Int} (h0 : 0 ≤ o) (h1 : o ≤ 4294967295) (n0 : 0 ≤ n) : 0 ≤ avO o lc n ∧ avO o lc n ≤ 4294967295 := by
  rcases Bool.eq_false_or_eq_true (validB o lc) with h | h
  · rw [avO_t h]; have := addO_bd h0 n0; omega
  · rw [avO_f h]; omega
theorem avL_bd {o lc n : Int} (h0 : 0 ≤ lc) (h1 : lc ≤ 4294967295) (n0 : 0 ≤ n) : 0 ≤ avL o lc n ∧ avL o lc n ≤ 4294967295 := by
  rcases Bool.eq_false_or_eq_true (validB o lc) with h | h
  · rw [avL_t h]; exact addLC_bd h0 h1 n0
  · rw [avL_f h]; omega
theorem posAdd_any (o lc n : Int) (w : World) (h0 : 0 ≤ o) (g0 : 0 ≤ lc) (g1 : lc ≤ 4294967295) (n0 : 0 ≤ n) (n1 : n ≤ 100) :
    Calls Try.prog 50 #[posV o lc, .int .i64 n] w fun e w' => e = .returned (posV (avO o lc n) (avL o lc n)) ∧ Below w.heap.size w w' := by
  rcases Bool.eq_false_or_eq_true (validB o lc) with h | h
  · rw [avO_t h, avL_t h]; exact posAdd_ok o lc n w h h0 (valid_le h) g0 g1 n0 n1
  · rw [avO_f h, avL_f h]; exact posAdd_bad o lc n w h

set_option maxHeartbeats 1000000 in
theorem blockEnd_any (b : Nat) (o lc : Int) (w : World) (h4 : w.cell? ⟨b, 2, none⟩ = some (.int .u32 o)) (h5 : w.cell? ⟨b, 3, none⟩ = some (.int .u32 lc)) (h0 : 0 ≤ o) (g0 : 0 ≤ lc) (g1 : lc ≤ 4294967295) :
    Calls Try.prog 14 #[.pointer (some ⟨b, 0, none⟩)] w fun e w' => e = .returned (posV (avO o lc 1) (avL o lc 1)) ∧ Below w.heap.size w w' := by
  have hz : b < w.heap.size := World.block_lt_of_cell? w _ h4
  go_enter Try.func14, Try.ntmps14
  go_wp2_with (go_at_call 50; refine (posAdd_any _ _ _ _ h0 g0 g1 (by omega) (by omega)).mono ?_; rintro e w1 ⟨rfl, hb1⟩; have q0 : w1.cell? ⟨w.heap.size, 0, none⟩ = some (.int .u32 0) := cell_later hb1 (by go_simp); have q1 : w1.cell? ⟨w.heap.size, 1, none⟩ = some (.int .u32 0) := cell_later hb1 (by go_simp); have f0 : w1.frozen? ⟨w.heap.size, 0, none⟩ = false := (hb1.frozen (p := ⟨w.heap.size, 0, none⟩) (by simp)).trans (by simp); have f1 : w1.frozen? ⟨w.heap.size, 1, none⟩ = false := (hb1.frozen (p := ⟨w.heap.size, 1, none⟩) (by simp)).trans (by simp))
  refine bodyPost_ret (v := posV (avO o lc 1) (avL o lc 1)) (by simp [results, Try.results14, go_sem, q0, q1]) rfl ⟨rfl, ?_⟩
  exact ((((Below.refl _ _).alloc (Nat.le_refl _) _).trans (hb1.mono (by simp))).setCell (Nat.le_refl _) _).setCell (Nat.le_refl _) _
set_option maxHeartbeats 1000000 in
theorem wcEnd_any (b : Nat) (o lc : Int) (w : World) (h4 : w.cell? ⟨b, 4, none⟩ = some (.int .u32 o)) (h5 : w.cell? ⟨b, 5, none⟩ = some (.int .u32 lc)) (h0 : 0 ≤ o) (g0 : 0 ≤ lc) (g1 : lc ≤ 4294967295) :
    Calls Try.prog 15 #[.pointer (some ⟨b, 0, none⟩)] w fun e w' => e = .returned (posV (avO o lc 4) (avL o lc 4)) ∧ Below w.heap.size w w' := by
  have hz : b < w.heap.size := World.block_lt_of_cell? w _ h4
  go_enter Try.func15, Try.ntmps15
  go_wp2_with (go_at_call 50; refine (posAdd_any _ _ _ _ h0 g0 g1 (by omega) (by omega)).mono ?_; rintro e w1 ⟨rfl, hb1⟩; have q0 : w1.cell? ⟨w.heap.size, 0, none⟩ = some (.int .u32 0) := cell_later hb1 (by go_simp); have q1 : w1.cell? ⟨w.heap.size, 1, none⟩ = some (.int .u32 0) := cell_later hb1 (by go_simp); have f0 : w1.frozen? ⟨w.heap.size, 0, none⟩ = false := (hb1.frozen (p := ⟨w.heap.size, 0, none⟩) (by simp)).trans (by simp); have f1 : w1.frozen? ⟨w.heap.size, 1, none⟩ = false := (hb1.frozen (p := ⟨w.heap.size, 1, none⟩) (by simp)).trans (by simp))
  refine bodyPost_ret (v := posV (avO o lc 4) (avL o lc 4)) (by simp [results, Try.results15, go_sem, q0, q1]) rfl ⟨rfl, ?_⟩
  exact ((((Below.refl _ _).alloc (Nat.le_refl _) _).trans (hb1.mono (by simp))).setCell (Nat.le_refl _) _).setCell (Nat.le_refl _) _
theorem wcPos_any (b : Nat) (o lc : Int) (w : World) (h4 : w.cell? ⟨b, 0, none⟩ = some (.int .u32 o)) (h5 : w.cell? ⟨b, 1, none⟩ = some (.int .u32 lc)) :
    Calls Try.prog 35 #[.pointer (some ⟨b, 0, none⟩)] w fun e w' => e = .returned (posV o lc) ∧ w.alloc (posC o lc) = w' := by
  have hz : b < w.heap.size := World.block_lt_of_cell? w _ h4
  go_enter Try.func35, Try.ntmps35
  go_wp2
  exact bodyPost_ret (v := posV o lc) (by simp [results, Try.results35, go_sem]) rfl ⟨rfl, by simp⟩

/-- n single steps -/
def it (o lc : Int) : Nat → Int × Int
  | 0 => (o, lc)
  | n + 1 => (avO (it o lc n).1 (it o lc n).2 1, avL (it o lc n).1 (it o lc n).2 1)
theorem it_bd {o lc : Int} (h0 : 0 ≤ o) (h1 : o ≤ 4294967295) (g0 : 0 ≤ lc) (g1 : lc ≤ 4294967295) : ∀ n : Nat, (0 ≤ (it o lc n).1 ∧ (it o lc n).1 ≤ 4294967295) ∧ (0 ≤ (it o lc n).2 ∧ (it o lc n).2 ≤ 4294967295)
  | 0 => ⟨⟨h0, h1⟩, ⟨g0, g1⟩⟩
  | n + 1 => by
    have h := it_bd h0 h1 g0 g1 n
    exact ⟨avO_bd h.1.1 h.1.2 (by omega), avL_bd h.2.1 h.2.2 (by omega)⟩
theorem it_bad {o lc : Int} (h : validB o lc = false) : ∀ n : Nat, it o lc n = (o, lc)
  | 0 => rfl
  | n + 1 => by
    show (avO (it o lc n).1 (it o lc n).2 1, avL (it o lc n).1 (it o lc n).2 1) = (o, lc)
    rw [it_bad h n]
    show (avO o lc 1, avL o lc 1) = (o, lc)
    rw [avO_f h, avL_f h]
theorem addO_step {o n : Int} : addO (addO o n) 1 = addO o (n + 1) := by
  unfold addO; split <;> split <;> (try split) <;> omega
theorem addC_step {lc n : Int} (n0 : 0 ≤ n) : addC (addLC lc n) 1 = addC lc (n + 1) := by
  have hb := addC_bd (lc := lc) n0
  have e : addLC lc n % 16384 = addC lc n := by unfold addLC; omega
  have e2 : addC (addLC lc n) 1 = if 0 < addC lc n ∧ addC lc n + 1 ≤ 16383 then addC lc n + 1 else 0 := by rw [← e]; rfl
  rw [e2]
  unfold addC
  split <;> split <;> (try split) <;> omega
theorem addLC_step {lc n : Int} (n0 : 0 ≤ n) : addLC (addLC lc n) 1 = addLC lc (n + 1) := by
  have hb := addC_bd (lc := lc) n0
  have e : addLC lc n / 16384 = lc / 16384 := by unfold addLC; omega
  show addLC lc n / 16384 * 16384 + addC (addLC lc n) 1 = lc / 16384 * 16384 + addC lc (n + 1)
  rw [e, addC_step n0]
theorem addO_zero {o : Int} (h : o ≤ 4294967284) : addO o 0 = o := by unfold addO; split <;> omega
theorem addLC_zero (lc : Int) : addLC lc 0 = lc := by unfold addLC addC; split <;> omega
theorem it_ok {o lc : Int} (h : validB o lc = true) (h0 : 0 ≤ o) (hl : 16384 ≤ lc) : ∀ n : Nat, it o lc n = (addO o n, addLC lc n)
  | 0 => by
    show (o, lc) = _
    rw [show ((0 : Nat) : Int) = 0 from rfl, addO_zero (valid_le h), addLC_zero]
  | n + 1 => by
    show (avO (it o lc n).1 (it o lc n).2 1, avL (it o lc n).1 (it o lc n).2 1) = _
    rw [it_ok h h0 hl n]
    have n0 : (0 : Int) ≤ n := by omega
    have hb := addC_bd (lc := lc) n0
    have v : validB (addO o n) (addLC lc n) = true := validB_t (addO_bd h0 n0).2 (by unfold addLC; omega)
    show (avO (addO o n) (addLC lc n) 1, avL (addO o n) (addLC lc n) 1) = _
    rw [avO_t v, avL_t v, addO_step, addLC_step n0]
    rfl
theorem it_four {o lc : Int} (h0 : 0 ≤ o) (h : validB o lc = false ∨ 16384 ≤ lc) : it o lc 4 = (avO o lc 4, avL o lc 4) := by
  rcases Bool.eq_false_or_eq_true (validB o lc) with v | v
  · rw [avO_t v, avL_t v]
    exact it_ok v h0 (h.resolve_left (by rw [v]; decide)) 4
  · rw [avO_f v, avL_f v, it_bad v]
end Go.Proofs.Ytknilfihibmgdaa
