/- The contracts of the functions of syntax.Pos (NewPos, Offset, Line, Col and their like), with the plain arithmetic of their bits. Conditions: the bounds that each contract names. -/
import Derived.Test.YtefgeoadfjghaaaRows
import Derived.WalkKit
import Derived.WalkSpells
import Derived.WalkLawsBesides
import Derived.Lib.Hide
namespace Go.Proofs.Ytefgeoadfjghaaa
open Go.RowKit

/-- line above column in one word -/
theorem or_pack (l c : Int) (h0 : 0 ≤ l) (h1 : l ≤ 262143) (h2 : 0 ≤ c) (h3 : c ≤ 16383) : bits .or .u32 (l * 16384) c = l * 16384 + c := by
  obtain ⟨L, rfl⟩ := Int.eq_ofNat_of_zero_le h0
  obtain ⟨C, rfl⟩ := Int.eq_ofNat_of_zero_le h2
  have e : ((L : Int) * 16384) = ((L * 16384 : Nat) : Int) := by omega
  rw [e, u32_or _ _ (by omega) (by omega) (by omega) (by omega)]
  simp only [Int.toNat_natCast]
  have h := @Nat.shiftLeft_add_eq_or_of_lt 14 C (by omega) L
  rw [Nat.shiftLeft_eq] at h
  rw [← h]
  omega
theorem and_mask (x : Int) (h0 : 0 ≤ x) (h1 : x ≤ 4294967295) : bits .and .u32 x 16383 = x % 16384 := by
  obtain ⟨X, rfl⟩ := Int.eq_ofNat_of_zero_le h0
  rw [u32_and _ _ (by omega) (by omega) (by omega) (by omega)]
  simp only [Int.toNat_natCast]
  have h := Nat.and_two_pow_sub_one_eq_mod X 14
  have e : (16383 : Int).toNat = 2 ^ 14 - 1 := by decide
  rw [e, h]
  omega
def clampO (o : Int) : Int := if o ≤ 4294967284 then o else 4294967284
def normL (l : Int) : Int := if l ≤ 262143 then l else 0
def normC (c : Int) : Int := if c ≤ 16383 then c else 0
def packLC (l c : Int) : Int := normL l * 16384 + normC c
theorem clampO_le {o : Int} (h : o ≤ 4294967284) : clampO o = o := if_pos h
theorem clampO_gt {o : Int} (h : ¬ o ≤ 4294967284) : clampO o = 4294967284 := if_neg h
theorem normL_le {l : Int} (h : l ≤ 262143) : normL l = l := if_pos h
theorem normL_gt {l : Int} (h : ¬ l ≤ 262143) : normL l = 0 := if_neg h
theorem normC_le {c : Int} (h : c ≤ 16383) : normC c = c := if_pos h
theorem normC_gt {c : Int} (h : ¬ c ≤ 16383) : normC c = 0 := if_neg h
theorem clampO_bd (o : Int) (h : 0 ≤ o) : 0 ≤ clampO o ∧ clampO o ≤ 4294967284 := by unfold clampO; split <;> omega
theorem normL_bd (l : Int) (h : 0 ≤ l) : 0 ≤ normL l ∧ normL l ≤ 262143 := by unfold normL; split <;> omega
theorem normC_bd (c : Int) (h : 0 ≤ c) : 0 ≤ normC c ∧ normC c ≤ 16383 := by unfold normC; split <;> omega
theorem packLC_bd (l c : Int) (h : 0 ≤ l) (g : 0 ≤ c) : 0 ≤ packLC l c ∧ packLC l c ≤ 4294967295 := by
  have := normL_bd l h; have := normC_bd c g; unfold packLC; omega

/-- the value of a Pos -/
abbrev posV (o lc : Int) : Value := .agg #[.int .u32 o, .int .u32 lc]

/-- its block -/
abbrev posC (o lc : Int) : Obj := .cells #[.int .u32 o, .int .u32 lc] 39
theorem ret_pos {a b a' b' : Int} (h : a = a') (g : b = b') : Ending.returned (posV a b) = .returned (posV a' b') := by rw [h, g]
theorem ret_u64 {a b : Int} (h : a = b) : Ending.returned (.int .u64 a) = .returned (.int .u64 b) := by rw [h]
theorem pk11 {l c : Int} (h0 : 0 ≤ l) (h1 : l ≤ 262143) (h2 : 0 ≤ c) (h3 : c ≤ 16383) : bits .or .u32 (l * 16384) c = packLC l c := by
  rw [or_pack l c h0 h1 h2 h3, packLC, normL_le h1, normC_le h3]
theorem pk10 {l c : Int} (h0 : 0 ≤ l) (h1 : l ≤ 262143) (h3 : ¬ c ≤ 16383) : bits .or .u32 (l * 16384) 0 = packLC l c := by
  rw [or_pack l 0 h0 h1 (by omega) (by omega), packLC, normL_le h1, normC_gt h3]
theorem pk01 {l c : Int} (h1 : ¬ l ≤ 262143) (h2 : 0 ≤ c) (h3 : c ≤ 16383) : bits .or .u32 0 c = packLC l c := by
  have := or_pack 0 c (by omega) (by omega) h2 h3
  rw [Int.zero_mul] at this
  rw [this, packLC, normL_gt h1, normC_le h3, Int.zero_mul]
theorem pk00 {l c : Int} (h1 : ¬ l ≤ 262143) (h3 : ¬ c ≤ 16383) : bits .or .u32 0 0 = packLC l c := by
  rw [packLC, normL_gt h1, normC_gt h3, Int.zero_mul]; decide

theorem packLC_self (L : Int) (h0 : 0 ≤ L) (h1 : L ≤ 4294967295) : packLC (L / 16384) (L % 16384) = L := by
  rw [packLC, normL_le (by omega), normC_le (by omega)]; omega
theorem kd {W : World} {a : Addr} {v : Value} (h : W.cell? a = some v) : W.drew.cell? a = some v := h
theorem kb {W : World} {o : Obj} {a : Addr} {v : Value} (h : W.cell? a = some v) : (W.alloc o).cell? a = some v := by
  rw [World.cell?_alloc_lt _ _ _ (World.block_lt_of_cell? W a h)]; exact h
theorem bal {w W : World} (h : Below w.heap.size w W) (o : Obj) : Below w.heap.size w (W.alloc o) := h.alloc h.size o
theorem bcell {W w1 : World} (hb : Below W.heap.size W w1) : (∀ b o, b < W.heap.size → w1.cell? ⟨b, o, none⟩ = W.cell? ⟨b, o, none⟩) ∧ (∀ b o, b < W.heap.size → w1.frozen? ⟨b, o, none⟩ = W.frozen? ⟨b, o, none⟩) :=
  ⟨fun b o h => hb.cell (p := ⟨b, o, none⟩) h, fun b o h => hb.frozen (p := ⟨b, o, none⟩) h⟩

theorem newPos_walk (o l c L C : Int) (w : World) (h0 : 0 ≤ o) (h1 : 0 ≤ l) (h2 : 0 ≤ c) (hl : (l ≤ 262143 ∧ L = l * 16384) ∨ (262143 < l ∧ L = 0)) (hc : (c ≤ 16383 ∧ C = c) ∨ (16383 < c ∧ C = 0)) :
    Calls Try.prog 15 #[.int .u64 o, .int .u64 l, .int .u64 c] w fun e w' => e = .returned (posV (clampO o) (bits .or .u32 L C)) ∧ w.alloc (posC (clampO o) (bits .or .u32 L C)) = w' := by
  have eo : clampO o = if o ≤ 4294967284 then o else 4294967284 := rfl
  rcases hl with ⟨hl, rfl⟩ | ⟨hl, rfl⟩ <;> rcases hc with ⟨hc, rfl⟩ | ⟨hc, rfl⟩ <;> by_cases ho : o ≤ 4294967284
  all_goals
    first | rw [if_pos ho] at eo | rw [if_neg ho] at eo
    rw [eo]
    clear eo
    go_enter Try.func15, Try.ntmps15
    go_wp2
    exact bodyPost_ret (by simp [results, Try.results15, go_sem]) rfl ⟨rfl, rfl⟩
theorem newPos_any (o l c : Int) (w : World) (h0 : 0 ≤ o) (h1 : 0 ≤ l) (h2 : 0 ≤ c) :
    Calls Try.prog 15 #[.int .u64 o, .int .u64 l, .int .u64 c] w fun e w' => e = .returned (posV (clampO o) (packLC l c)) ∧ w.alloc (posC (clampO o) (packLC l c)) = w' := by
  by_cases hl : l ≤ 262143 <;> by_cases hc : c ≤ 16383
  · rw [← pk11 h1 hl h2 hc]; exact newPos_walk o l c _ _ w h0 h1 h2 (.inl ⟨hl, rfl⟩) (.inl ⟨hc, rfl⟩)
  · rw [← pk10 h1 hl hc]; exact newPos_walk o l c _ _ w h0 h1 h2 (.inl ⟨hl, rfl⟩) (.inr ⟨by omega, rfl⟩)
  · rw [← pk01 hl h2 hc]; exact newPos_walk o l c _ _ w h0 h1 h2 (.inr ⟨by omega, rfl⟩) (.inl ⟨hc, rfl⟩)
  · rw [← pk00 hl hc]; exact newPos_walk o l c _ _ w h0 h1 h2 (.inr ⟨by omega, rfl⟩) (.inr ⟨by omega, rfl⟩)
end Go.Proofs.Ytefgeoadfjghaaa
