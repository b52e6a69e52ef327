/- The contract of slices.BinarySearch at a strictly increasing row of integers: the position of the target where it is there, false where it is not. Conditions: the cells, the order and the length that the contracts name. -/
import Derived.Test.YthfjbbeecoeenaaRows
import Derived.WalkKit
import Derived.WalkSpells
import Derived.WalkLawsBesides
import Derived.Lib.Hide
import Derived.Outline
namespace Go.Proofs.Ythfjbbeecoeenaa
namespace BS
open Go.RowKit

theorem isNaNc (x : Int) (w : World) : Calls Try.prog 40 #[.int .i64 x] w fun e w' => e = .returned (.bool false) ∧ w = w' := by
  go_enter Try.func40, Try.ntmps40
  go_wp2
  go_ret
  exact ⟨by simp, rfl⟩
theorem isNaNs (x : Int) (w : World) : Calls Try.prog 38 #[.int .i64 x] w fun e w' => e = .returned (.bool false) ∧ w = w' := by
  go_enter Try.func38, Try.ntmps38
  go_wp2
  go_ret
  exact ⟨by simp, rfl⟩
theorem less_yes (x y : Int) (w : World) (h : x < y) : Calls Try.prog 37 #[.int .i64 x, .int .i64 y] w fun e w' => e = .returned (.bool true) ∧ w = w' := by
  go_enter Try.func37, Try.ntmps37
  go_wp2_with (go_at_call 40; refine (isNaNc _ _).mono ?_; rintro e w' ⟨rfl, rfl⟩)
  go_ret
  exact ⟨rfl, rfl⟩
theorem less_no (x y : Int) (w : World) (h : y ≤ x) : Calls Try.prog 37 #[.int .i64 x, .int .i64 y] w fun e w' => e = .returned (.bool false) ∧ w = w' := by
  go_enter Try.func37, Try.ntmps37
  go_wp2_with (go_at_call 40; refine (isNaNc _ _).mono ?_; rintro e w' ⟨rfl, rfl⟩)
  go_ret
  exact ⟨by simp [h], rfl⟩
/-- the way of the search: what lies left of i is smaller, what lies from j on is not -/
def Way (f : Nat → Int) (n : Nat) (t : Int) (vi vj : Value) : Prop := ∃ i j : Nat, vi = .int .i64 i ∧ vj = .int .i64 j ∧ i ≤ j ∧ j ≤ n ∧ (∀ m, m < i → f m < t) ∧ (∀ m, j ≤ m → m < n → t ≤ f m)
/-- what the search answers -/
def Found (f : Nat → Int) (n : Nat) (t : Int) (w : World) (e : Ending) (w' : World) : Prop :=
  ∃ i : Nat, i ≤ n ∧ (∀ m, m < i → f m < t) ∧ (∀ m, i ≤ m → m < n → t ≤ f m) ∧ e = .returned (.tuple #[.int .i64 i, .bool (decide (i < n ∧ f i = t))]) ∧ w = w'
theorem half (i j : Nat) (h : i < j) : i ≤ (i + j) / 2 ∧ (i + j) / 2 < j := by omega
set_option maxRecDepth 100000 in
set_option maxHeartbeats 2000000 in
theorem search (b n c : Nat) (f : Nat → Int) (t : Int) (w : World) (hc : ∀ i, i < n → w.cell? ⟨b, i, none⟩ = some (.int .i64 (f i))) (hs : ∀ i j, i < j → j < n → f i < f j) (hn : n ≤ 1048576) :
    Calls Try.prog 32 #[.slice (some ⟨b, 0, none⟩) n c, .int .i64 t] w (Found f n t w) := by
  have HC := Lib.hid hc
  have HS := Lib.hid hs
  clear hc hs
  go_enter Try.func32, Try.ntmps32
  go_wp2
  go_loop [7, 8] (fun vi vj => Way f n t vi vj) (fun vi vj => (intOf vj - intOf vi).toNat)
  case atStart => exact ⟨0, n, rfl, rfl, Nat.zero_le _, Nat.le_refl _, fun m h => by omega, fun m h1 h2 => by omega⟩
  case round =>
    obtain ⟨i, j, rfl, rfl, hij, hjn, hl, hr⟩ := hrel
    have HL := Lib.hid hl
    have HR := Lib.hid hr
    clear hl hr
    by_cases hlt : i < j
    · have hh := half i j hlt
      have hcell := HC.out ((i + j) / 2) (by omega)
      generalize hm : (i + j) / 2 = m at *
      have em : ((i : Int) + (j : Int)) / 2 = (m : Int) := by omega
      by_cases hf : f m < t
      · go_wp2_with (go_at_call 37; refine (less_yes _ _ _ hf).mono ?_; rintro e w' ⟨rfl, rfl⟩)
        go_round
        case rel =>
          refine ⟨m + 1, j, by go_num, rfl, by omega, hjn, fun k hk => ?_, HR.out⟩
          rcases Nat.lt_or_ge k m with h | h
          · have := HS.out k m h (by omega); omega
          · have : k = m := by omega
            rw [this]; exact hf
        case measure => simp [intOf]; omega
      · go_wp2_with (go_at_call 37; refine (less_no _ _ _ (by omega)).mono ?_; rintro e w' ⟨rfl, rfl⟩)
        go_round
        case rel =>
          refine ⟨i, m, rfl, by go_num, by omega, by omega, HL.out, fun k hk hkn => ?_⟩
          rcases Nat.lt_or_ge m k with h | h
          · have := HS.out m k h hkn; omega
          · have : k = m := by omega
            rw [this]; omega
        case measure => simp [intOf]; omega
    · have e : i = j := by omega
      subst e
      by_cases hin : i < n
      · have hcell := HC.out i hin
        have i0 : (0 : Int) ≤ (i : Int) := by omega
        have i1 : (i : Int) < (n : Int) := by omega
        rcases Bool.eq_false_or_eq_true (f i == t) with hq | hq
        · go_wp2_with (go_at_call 38; refine (isNaNs _ _).mono ?_; rintro e w' ⟨rfl, rfl⟩)
          go_ret2
          exact ⟨i, hjn, HL.out, HR.out, by simp [hin, beq_iff_eq.1 hq], rfl⟩
        · go_wp2_with (go_at_call 38; refine (isNaNs _ _).mono ?_; rintro e w' ⟨rfl, rfl⟩)
          go_ret2
          exact ⟨i, hjn, HL.out, HR.out, by simp [hin, beq_eq_false_iff_ne.1 hq], rfl⟩
      · have hin' : decide ((i : Int) < (n : Int)) = false := by simp; omega
        go_wp2_with (go_at_call 38; refine (isNaNs _ _).mono ?_; rintro e w' ⟨rfl, rfl⟩)
        go_ret2
        exact ⟨i, hjn, HL.out, HR.out, by simp [hin], rfl⟩
theorem hit (b n c p : Nat) (f : Nat → Int) (t : Int) (w : World) (hc : ∀ i, i < n → w.cell? ⟨b, i, none⟩ = some (.int .i64 (f i))) (hs : ∀ i j, i < j → j < n → f i < f j) (hn : n ≤ 1048576) (hp : p < n) (hf : f p = t) :
    Calls Try.prog 32 #[.slice (some ⟨b, 0, none⟩) n c, .int .i64 t] w fun e w' => e = .returned (.tuple #[.int .i64 p, .bool true]) ∧ w = w' := by
  refine (search b n c f t w hc hs hn).mono ?_
  rintro e w' ⟨i, hi, h1, h2, he, hw⟩
  have h3 : i ≤ p := by
    rcases Nat.lt_or_ge p i with h | h
    · have := h1 p h; omega
    · exact h
  have h4 : p = i := by
    rcases Nat.lt_or_ge i p with h | h
    · have a1 := hs i p h hp
      have a2 := h2 i (Nat.le_refl _) (by omega)
      omega
    · omega
  subst h4
  exact ⟨by rw [he]; simp [hp, hf], hw⟩
/-- the target is not there -/
def Missed (w : World) (e : Ending) (w' : World) : Prop := ∃ i : Nat, e = .returned (.tuple #[.int .i64 i, .bool false]) ∧ w = w'
theorem miss (b n c : Nat) (f : Nat → Int) (t : Int) (w : World) (hc : ∀ i, i < n → w.cell? ⟨b, i, none⟩ = some (.int .i64 (f i))) (hs : ∀ i j, i < j → j < n → f i < f j) (hn : n ≤ 1048576) (hf : ∀ i, i < n → ¬ f i = t) :
    Calls Try.prog 32 #[.slice (some ⟨b, 0, none⟩) n c, .int .i64 t] w (Missed w) := by
  refine (search b n c f t w hc hs hn).mono ?_
  rintro e w' ⟨i, hi, h1, h2, he, hw⟩
  have : decide (i < n ∧ f i = t) = false := by
    simp only [decide_eq_false_iff_not, not_and]
    exact fun h => hf i h
  exact ⟨i, by rw [he, this], hw⟩
end BS
end Go.Proofs.Ythfjbbeecoeenaa
