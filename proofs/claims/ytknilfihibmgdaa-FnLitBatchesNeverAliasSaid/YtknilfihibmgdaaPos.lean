/- The contracts of the functions of syntax.Pos (NewPos, Offset, Line, Col and their like), with the plain arithmetic of their bits. Conditions: the bounds that each contract names. -/
import Derived.Test.YtknilfihibmgdaaRows
import Derived.WalkKit
import Derived.WalkSpells
import Derived.WalkLawsBesides
import Derived.Lib.Hide
namespace Go.Proofs.Ytknilfihibmgdaa
open Go.RowKit

/-- line above column in one word -/
theorem or_pack (l c : Int) (h0 : 0 ≤ l) (h1 : l ≤ 262143) (h2 : 0 ≤ c) (h3 : c ≤ 16383) : bits .or .u32 (l * 16384) c = l * 16384 + c := by
  obtain ⟨L, rfl⟩ := Int.eq_ofNat_of_zero_le h0
  obtain ⟨C, rfl⟩ := Int.eq_ofNat_of_zero_le h2
  have e : ((L : Int) * 16384) = ((L * 16384 : Nat) : Int) := by omega
  rw [e, u32_or _ _ (by omega) (by omega) (by omega) (by omega)]
  simp only [Int.toNat_natCast]
  have h := @Nat.shiftLeft_add_eq_or_of_lt 14 C (by omega) L
  rw [Nat.shiftLeft_eq] at h
  rw [← h]
  omega
theorem and_mask (x : Int) (h0 : 0 ≤ x) (h1 : x ≤ 4294967295) : bits .and .u32 x 16383 = x % 16384 := by
  obtain ⟨X, rfl⟩ := Int.eq_ofNat_of_zero_le h0
  rw [u32_and _ _ (by omega) (by omega) (by omega) (by omega)]
  simp only [Int.toNat_natCast]
  have h := Nat.and_two_pow_sub_one_eq_mod X 14
  have e : (16383 : Int).toNat = 2 ^ 14 - 1 := by decide
  rw [e, h]
  omega
def clampO (o : Int) : Int := if o ≤ 4294967284 then o else 4294967284
def normL (l : Int) : Int := if l ≤ 262143 then l else 0
def normC (c : Int) : Int := if c ≤ 16383 then c else 0
def packLC (l c : Int) : Int := normL l * 16384 + normC c
theorem clampO_le {o : Int} (h : o ≤ 4294967284) : clampO o = o := if_pos h
theorem clampO_gt {o : Int} (h : ¬ o ≤ 4294967284) : clampO o = 4294967284 := if_neg h
theorem normL_le {l : Int} (h : l ≤ 262143) : normL l = l := if_pos h
theorem normL_gt {l : Int} (h : ¬ l ≤ 262143) : normL l = 0 := if_neg h
theorem normC_le {c : Int} (h : c ≤ 16383) : normC c = c := if_pos h
theorem normC_gt {c : Int} (h : ¬ c ≤ 16383) : normC c = 0 := if_neg h
theorem clampO_bd (o : Int) (h : 0 ≤ o) : 0 ≤ clampO o ∧ clampO o ≤ 4294967284 := by unfold clampO; split <;> omega
theorem normL_bd (l : Int) (h : 0 ≤ l) : 0 ≤ normL l ∧ normL l ≤ 262143 := by unfold normL; split <;> omega
theorem normC_bd (c : Int) (h : 0 ≤ c) : 0 ≤ normC c ∧ normC c ≤ 16383 := by unfold normC; split <;> omega
theorem packLC_bd (l c : Int) (h : 0 ≤ l) (g : 0 ≤ c) : 0 ≤ packLC l c ∧ packLC l c ≤ 4294967295 := by
  have := normL_bd l h; have := normC_bd c g; unfold packLC; omega

/-- the value of a Pos -/
abbrev posV (o lc : Int) : Value := .agg #[.int .u32 o, .int .u32 lc]

/-- its block -/
abbrev posC (o lc : Int) : Obj := .cells #[.int .u32 o, .int .u32 lc] 26
theorem ret_pos {a b a' b' : Int} (h : a = a') (g : b = b') : Ending.returned (posV a b) = .returned (posV a' b') := by rw [h, g]
theorem ret_u64 {a b : Int} (h : a = b) : Ending.returned (.int .u64 a) = .returned (.int .u64 b) := by rw [h]
theorem pk11 {l c : Int} (h0 : 0 ≤ l) (h1 : l ≤ 262143) (h2 : 0 ≤ c) (h3 : c ≤ 16383) : bits .or .u32 (l * 16384) c = packLC l c := by
  rw [or_pack l c h0 h1 h2 h3, packLC, normL_le h1, normC_le h3]
theorem pk10 {l c : Int} (h0 : 0 ≤ l) (h1 : l ≤ 262143) (h3 : ¬ c ≤ 16383) : bits .or .u32 (l * 16384) 0 = packLC l c := by
  rw [or_pack l 0 h0 h1 (by omega) (by omega), packLC, normL_le h1, normC_gt h3]
theorem pk01 {l c : Int} (h1 : ¬ l ≤ 262143) (h2 : 0 ≤ c) (h3 : c ≤ 16383) : bits .or .u32 0 c = packLC l c := by
  have := or_pack 0 c (by omega) (by omega) h2 h3
  rw [Int.zero_mul] at this
  rw [this, packLC, normL_gt h1, normC_le h3, Int.zero_mul]
theorem pk00 {l c : Int} (h1 : ¬ l ≤ 262143) (h3 : ¬ c ≤ 16383) : bits .or .u32 0 0 = packLC l c := by
  rw [packLC, normL_gt h1, normC_gt h3, Int.zero_mul]; decide

theorem packLC_self (L : Int) (h0 : 0 ≤ L) (h1 : L ≤ 4294967295) : packLC (L / 16384) (L % 16384) = L := by
  rw [packLC, normL_le (by omega), normC_le (by omega)]; omega
theorem kd {W : World} {a : Addr} {v : Value} (h : W.cell? a = some v) : W.drew.cell? a = some v := h
theorem kb {W : World} {o : Obj} {a : Addr} {v : Value} (h : W.cell? a = some v) : (W.alloc o).cell? a = some v := by
  rw [World.cell?_alloc_lt _ _ _ (World.block_lt_of_cell? W a h)]; exact h
theorem bal {w W : World} (h : Below w.heap.size w W) (o : Obj) : Below w.heap.size w (W.alloc o) := h.alloc h.size o
theorem bcell {W w1 : World} (hb : Below W.heap.size W w1) : (∀ b o, b < W.heap.size → w1.cell? ⟨b, o, none⟩ = W.cell? ⟨b, o, none⟩) ∧ (∀ b o, b < W.heap.size → w1.frozen? ⟨b, o, none⟩ = W.frozen? ⟨b, o, none⟩) :=
  ⟨fun b o h => hb.cell (p := ⟨b, o, none⟩) h, fun b o h => hb.frozen (p := ⟨b, o, none⟩) h⟩

theorem newPos_walk (o l c L C : Int) (w : World) (h0 : 0 ≤ o) (h1 : 0 ≤ l) (h2 : 0 ≤ c) (hl : (l ≤ 262143 ∧ L = l * 16384) ∨ (262143 < l ∧ L = 0)) (hc : (c ≤ 16383 ∧ C = c) ∨ (16383 < c ∧ C = 0)) :
    Calls Try.prog 48 #[.int .u64 o, .int .u64 l, .int .u64 c] w fun e w' => e = .returned (posV (clampO o) (bits .or .u32 L C)) ∧ w.alloc (posC (clampO o) (bits .or .u32 L C)) = w' := by
  have eo : clampO o = if o ≤ 4294967284 then o else 4294967284 := rfl
  rcases hl with ⟨hl, rfl⟩ | ⟨hl, rfl⟩ <;> rcases hc with ⟨hc, rfl⟩ | ⟨hc, rfl⟩ <;> by_cases ho : o ≤ 4294967284
  all_goals
    first | rw [if_pos ho] at eo | rw [if_neg ho] at eo
    rw [eo]
    clear eo
    go_enter Try.func48, Try.ntmps48
    go_wp2
    exact bodyPost_ret (by simp [results, Try.results48, go_sem]) rfl ⟨rfl, rfl⟩
theorem newPos_any (o l c : Int) (w : World) (h0 : 0 ≤ o) (h1 : 0 ≤ l) (h2 : 0 ≤ c) :
    Calls Try.prog 48 #[.int .u64 o, .int .u64 l, .int .u64 c] w fun e w' => e = .returned (posV (clampO o) (packLC l c)) ∧ w.alloc (posC (clampO o) (packLC l c)) = w' := by
  by_cases hl : l ≤ 262143 <;> by_cases hc : c ≤ 16383
  · rw [← pk11 h1 hl h2 hc]; exact newPos_walk o l c _ _ w h0 h1 h2 (.inl ⟨hl, rfl⟩) (.inl ⟨hc, rfl⟩)
  · rw [← pk10 h1 hl hc]; exact newPos_walk o l c _ _ w h0 h1 h2 (.inl ⟨hl, rfl⟩) (.inr ⟨by omega, rfl⟩)
  · rw [← pk01 hl h2 hc]; exact newPos_walk o l c _ _ w h0 h1 h2 (.inr ⟨by omega, rfl⟩) (.inl ⟨hc, rfl⟩)
  · rw [← pk00 hl hc]; exact newPos_walk o l c _ _ w h0 h1 h2 (.inr ⟨by omega, rfl⟩) (.inr ⟨by omega, rfl⟩)
def offOf (o : Int) : Int := if o ≤ 4294967284 then o else 0
theorem offOf_le {o : Int} (h : o ≤ 4294967284) : offOf o = o := if_pos h
theorem offset_any (o lc : Int) (w : World) (h0 : 0 ≤ o) (h1 : o ≤ 4294967295) :
    Calls Try.prog 38 #[posV o lc] w fun e w' => e = .returned (.int .u64 (offOf o)) ∧ w.alloc (posC o lc) = w' := by
  have eo : offOf o = if o ≤ 4294967284 then o else 0 := rfl
  by_cases ho : o ≤ 4294967284
  all_goals
    first | rw [if_pos ho] at eo | rw [if_neg ho] at eo
    rw [eo]
    clear eo
    go_enter Try.func38, Try.ntmps38
    go_wp2
    go_ret
    exact ⟨rfl, rfl⟩
theorem offset_in (o lc : Int) (w : World) (h0 : 0 ≤ o) (h1 : o ≤ 4294967284) :
    Calls Try.prog 38 #[posV o lc] w fun e w' => e = .returned (.int .u64 o) ∧ w.alloc (posC o lc) = w' := by
  have := offset_any o lc w h0 (by omega)
  rwa [offOf_le h1] at this
theorem line_any (o lc : Int) (w : World) (h0 : 0 ≤ lc) (h1 : lc ≤ 4294967295) :
    Calls Try.prog 37 #[posV o lc] w fun e w' => e = .returned (.int .u64 (lc / 16384)) ∧ w.alloc (posC o lc) = w' := by
  go_enter Try.func37, Try.ntmps37
  go_wp2
  go_ret
  exact ⟨rfl, rfl⟩
theorem col_any (o lc : Int) (w : World) (h0 : 0 ≤ lc) (h1 : lc ≤ 4294967295) :
    Calls Try.prog 60 #[posV o lc] w fun e w' => e = .returned (.int .u64 (lc % 16384)) ∧ w.alloc (posC o lc) = w' := by
  have hm := and_mask lc h0 h1
  go_enter Try.func60, Try.ntmps60
  go_wp2
  go_ret
  exact ⟨rfl, rfl⟩
def validB (o lc : Int) : Bool := decide (o ≤ 4294967284) && (lc != 0)
theorem isValid_any (o lc : Int) (w : World) :
    Calls Try.prog 53 #[posV o lc] w fun e w' => e = .returned (.bool (validB o lc)) ∧ w.alloc (posC o lc) = w' := by
  have eo : validB o lc = (decide (o ≤ 4294967284) && (lc != 0)) := rfl
  by_cases ho : o ≤ 4294967284
  · rw [decide_eq_true ho, Bool.true_and] at eo
    rw [eo]
    clear eo
    go_enter Try.func53, Try.ntmps53
    go_wp2
    go_ret
    exact ⟨rfl, rfl⟩
  · rw [decide_eq_false ho, Bool.false_and] at eo
    rw [eo]
    clear eo
    go_enter Try.func53, Try.ntmps53
    go_wp2
    go_ret
    exact ⟨rfl, rfl⟩
theorem validB_t {o lc : Int} (h : o ≤ 4294967284) (g : lc ≠ 0) : validB o lc = true := by simp [validB, h, g]
theorem validB_o {o lc : Int} (h : ¬ o ≤ 4294967284) : validB o lc = false := by simp [validB, h]
theorem validB_z (o : Int) : validB o 0 = false := by simp [validB]
theorem and_high (x : Nat) (hx : x < 4294967296) : x &&& 4294950912 = x / 16384 * 16384 := by
  have e : (4294950912 : Nat) = (2 ^ 18 - 1) <<< 14 := by decide
  have e2 : x / 16384 * 16384 = (x >>> 14) <<< 14 := by rw [Nat.shiftRight_eq_div_pow, Nat.shiftLeft_eq]
  rw [e, e2]
  apply Nat.eq_of_testBit_eq
  intro i
  rw [Nat.testBit_and, Nat.testBit_shiftLeft, Nat.testBit_shiftLeft, Nat.testBit_shiftRight, Nat.testBit_two_pow_sub_one]
  by_cases h : 14 ≤ i
  · have e3 : 14 + (i - 14) = i := by omega
    rw [e3]
    by_cases g : i - 14 < 18
    · simp [h, g]
    · have : x.testBit i = false := Nat.testBit_lt_two_pow (Nat.lt_of_lt_of_le hx (by
        have : 2 ^ 32 ≤ 2 ^ i := Nat.pow_le_pow_right (by omega) (by omega)
        exact this))
      simp [this]
  · simp [h]
theorem andNot_mask (x : Int) (h0 : 0 ≤ x) (h1 : x ≤ 4294967295) : bits .andNot .u32 x 16383 = x / 16384 * 16384 := by
  obtain ⟨X, rfl⟩ := Int.eq_ofNat_of_zero_le h0
  rw [u32_andNot _ _ (by omega) (by omega) (by omega) (by omega)]
  simp only [Int.toNat_natCast]
  have e : (4294967295 - (16383 : Int).toNat : Nat) = 4294950912 := by decide
  rw [e, and_high X (by omega)]
  omega
def addO (o n : Int) : Int := if o + n ≤ 4294967284 then o + n else 4294967284
def addC (lc n : Int) : Int := if 0 < lc % 16384 ∧ lc % 16384 + n ≤ 16383 then lc % 16384 + n else 0
def addLC (lc n : Int) : Int := lc / 16384 * 16384 + addC lc n
theorem addO_le {o n : Int} (h : o + n ≤ 4294967284) : addO o n = o + n := if_pos h
theorem addO_gt {o n : Int} (h : ¬ o + n ≤ 4294967284) : addO o n = 4294967284 := if_neg h
theorem addC_in {lc n : Int} (h : 0 < lc % 16384) (g : lc % 16384 + n ≤ 16383) : addC lc n = lc % 16384 + n := if_pos ⟨h, g⟩
theorem addC_out {lc n : Int} (h : ¬ (0 < lc % 16384 ∧ lc % 16384 + n ≤ 16383)) : addC lc n = 0 := if_neg h
theorem addO_bd {o n : Int} (h : 0 ≤ o) (g : 0 ≤ n) : 0 ≤ addO o n ∧ addO o n ≤ 4294967284 := by unfold addO; split <;> omega
theorem addC_bd {lc n : Int} (g : 0 ≤ n) : 0 ≤ addC lc n ∧ addC lc n ≤ 16383 := by unfold addC; split <;> omega
theorem addLC_bd {lc n : Int} (h : 0 ≤ lc) (h1 : lc ≤ 4294967295) (g : 0 ≤ n) : 0 ≤ addLC lc n ∧ addLC lc n ≤ 4294967295 := by
  have := addC_bd (lc := lc) g; unfold addLC; omega
theorem or_add (lc c : Int) (h0 : 0 ≤ lc) (h1 : lc ≤ 4294967295) (h2 : 0 ≤ c) (h3 : c ≤ 16383) : bits .or .u32 (lc / 16384 * 16384) c = lc / 16384 * 16384 + c :=
  or_pack (lc / 16384) c (by omega) (by omega) h2 h3

set_option maxHeartbeats 1000000 in
theorem posAdd_bad (o lc n : Int) (w : World) (h : validB o lc = false) :
    Calls Try.prog 50 #[posV o lc, .int .i64 n] w fun e w' => e = .returned (posV o lc) ∧ Below w.heap.size w w' := by
  go_enter Try.func50, Try.ntmps50
  go_wp2_with (go_at_call 53; refine (isValid_any _ _ _).mono ?_; rintro e w1 ⟨rfl, rfl⟩)
  exact bodyPost_ret (v := posV o lc) (by simp [results, Try.results50, go_sem]) rfl ⟨rfl, by repeat (first | exact Below.refl _ _ | apply Below.drew | apply bal)⟩
set_option maxHeartbeats 1000000 in
theorem posAdd_ok (o lc n : Int) (w : World) (h : validB o lc = true) (h0 : 0 ≤ o) (h1 : o ≤ 4294967284) (g0 : 0 ≤ lc) (g1 : lc ≤ 4294967295) (n0 : 0 ≤ n) (n1 : n ≤ 100) :
    Calls Try.prog 50 #[posV o lc, .int .i64 n] w fun e w' => e = .returned (posV (addO o n) (addLC lc n)) ∧ Below w.heap.size w w' := by
  have hm := andNot_mask lc g0 g1
  have hA : 0 ≤ o + n := by omega
  have hc0 : 0 ≤ lc % 16384 := by omega
  have hc1 : lc % 16384 ≤ 16383 := by omega
  have main : ∀ O C : Int, (o + n ≤ 4294967284 ∧ O = o + n ∨ 4294967284 < o + n ∧ O = 4294967284) → ((lc % 16384 ≤ 0 ∧ C = lc % 16384) ∨ ((0 < lc % 16384 ∧ lc % 16384 + n ≤ 16383) ∧ C = lc % 16384 + n) ∨ ((0 < lc % 16384 ∧ 16383 < lc % 16384 + n) ∧ C = 0)) →
      Calls Try.prog 50 #[posV o lc, .int .i64 n] w fun e w' => e = .returned (posV O (lc / 16384 * 16384 + C)) ∧ Below w.heap.size w w' := by
    intro O C hO hC
    have ho : bits .or .u32 (lc / 16384 * 16384) C = lc / 16384 * 16384 + C := or_add lc C g0 g1 (by omega) (by omega)
    rcases hO with ⟨hO, rfl⟩ | ⟨hO, rfl⟩ <;> rcases hC with ⟨hC, rfl⟩ | ⟨⟨hC, hD⟩, rfl⟩ | ⟨⟨hC, hD⟩, rfl⟩
    all_goals
      go_enter Try.func50, Try.ntmps50
      go_wp2_with (first | (go_at_call 53; refine (isValid_any _ _ _).mono ?_; rintro e w1 ⟨rfl, rfl⟩) | (go_at_call 60; refine (col_any _ _ _ g0 g1).mono ?_; rintro e w1 ⟨rfl, rfl⟩))
      exact bodyPost_ret (by simp [results, Try.results50, go_sem]) rfl ⟨rfl, by repeat (first | exact Below.refl _ _ | apply Below.drew | apply bal)⟩
  have := main (addO o n) (addC lc n) (by unfold addO; split <;> omega) (by unfold addC; split <;> omega)
  exact this
end Go.Proofs.Ytknilfihibmgdaa
