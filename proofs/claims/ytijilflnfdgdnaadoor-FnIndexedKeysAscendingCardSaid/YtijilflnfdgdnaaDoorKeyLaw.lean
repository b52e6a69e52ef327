/- Plain law, no program in sight: the decimal numerals of two numbers, the smaller ahead, are in order: the shorter first, then by bytes. -/
import Derived.Lib.ItoaNum
import Derived.Test.YtijilflnfdgdnaaDoorRows
namespace Go.Proofs.YtijilflnfdgdnaaDoor
namespace KL
open Go.Lib

theorem less_app (x y : List UInt8) (u v : List UInt8) (hl : x.length = y.length) (h : Op.bytesLess x y = true) : Op.bytesLess (x ++ u) (y ++ v) = true := by
  induction x generalizing y with
  | nil => cases y with
    | nil => simp [Op.bytesLess] at h
    | cons b y => simp at hl
  | cons a x ih => cases y with
    | nil => simp at hl
    | cons b y =>
      simp only [List.cons_append, Op.bytesLess, Bool.or_eq_true, Bool.and_eq_true, decide_eq_true_eq, beq_iff_eq] at h ⊢
      rcases h with h | ⟨rfl, h⟩
      · exact .inl h
      · exact .inr ⟨rfl, ih y (by simpa using hl) h⟩
theorem less_same (x : List UInt8) (u v : List UInt8) (h : Op.bytesLess u v = true) : Op.bytesLess (x ++ u) (x ++ v) = true := by
  induction x with
  | nil => exact h
  | cons a x ih => simp only [List.cons_append, Op.bytesLess, ih]; simp
theorem less_one (a b : Nat) (h : a < b) (hb : b < 10) : Op.bytesLess [UInt8.ofNat (48 + a)] [UInt8.ofNat (48 + b)] = true := by
  have : UInt8.ofNat (48 + a) < UInt8.ofNat (48 + b) := by
    rw [UInt8.lt_iff_toNat_lt]
    simp
    omega
  unfold Op.bytesLess
  rw [decide_eq_true this, Bool.true_or]
theorem dec_small {u : Nat} (h : u < 10) : decDigits u = [UInt8.ofNat (48 + u)] := by rw [decDigits, dif_pos h]
theorem dec_big {u : Nat} (h : ¬ u < 10) : decDigits u = decDigits (u / 10) ++ [UInt8.ofNat (48 + u % 10)] := by rw [decDigits, dif_neg h]
theorem digits_mono : ∀ (b a : Nat), a ≤ b → nDigits a ≤ nDigits b := by
  intro b
  induction b using Nat.strongRecOn with
  | ind b ih =>
    intro a hab
    by_cases hb : b < 10
    · rw [nDigits_small hb, nDigits_small (by omega)]; exact Nat.le_refl _
    · by_cases ha : a < 10
      · rw [nDigits_small ha]; exact nDigits_pos b
      · rw [nDigits_big hb, nDigits_big ha]
        have := ih (b / 10) (by omega) (a / 10) (by omega)
        omega
/-- the order of the numerals -/
theorem less_dec : ∀ (b a : Nat), a < b → nDigits a = nDigits b → Op.bytesLess (decDigits a) (decDigits b) = true := by
  intro b
  induction b using Nat.strongRecOn with
  | ind b ih =>
    intro a hab hd
    by_cases hb : b < 10
    · rw [dec_small hb, dec_small (by omega)]
      exact less_one a b hab hb
    · by_cases ha : a < 10
      · rw [nDigits_small ha, nDigits_big hb] at hd
        have := nDigits_pos (b / 10)
        omega
      · rw [nDigits_big ha, nDigits_big hb] at hd
        have hd' : nDigits (a / 10) = nDigits (b / 10) := by omega
        rw [dec_big ha, dec_big hb]
        rcases Nat.lt_or_ge (a / 10) (b / 10) with h | h
        · exact less_app _ _ _ _ (by rw [decDigits_length, decDigits_length]; exact hd') (ih (b / 10) (by omega) (a / 10) h hd')
        · have e : a / 10 = b / 10 := by omega
          rw [e]
          exact less_same _ _ _ (less_one _ _ (by omega) (by omega))
/-- what zzKeyLess asks of two numerals -/
theorem key (a b : Int) (h0 : 0 ≤ a) (h : a < b) : (itoa a).length < (itoa b).length ∨ ((itoa a).length = (itoa b).length ∧ Op.bytesLess (itoa a) (itoa b) = true) := by
  have ea : itoa a = decDigits a.toNat := by unfold itoa; rw [if_neg (by omega)]
  have eb : itoa b = decDigits b.toNat := by unfold itoa; rw [if_neg (by omega)]
  rw [ea, eb, decDigits_length, decDigits_length]
  have hm := digits_mono b.toNat a.toNat (by omega)
  rcases Nat.lt_or_ge (nDigits a.toNat) (nDigits b.toNat) with h1 | h1
  · exact .inl h1
  · exact .inr ⟨by omega, less_dec _ _ (by omega) (by omega)⟩
end KL
end Go.Proofs.YtijilflnfdgdnaaDoor
