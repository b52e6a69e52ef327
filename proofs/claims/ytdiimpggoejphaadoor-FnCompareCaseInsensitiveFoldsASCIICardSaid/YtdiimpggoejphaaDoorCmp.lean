/- The contracts of zzb6Up, zzb6FoldCmp, zzb6IsASCII, listEnviron.compare with case folding at ASCII texts. Conditions: the bounds and that the texts are ASCII. -/
import Derived.Test.YtdiimpggoejphaaDoorSlices
import Derived.Test.YtdiimpggoejphaaDoorShelf
import Derived.WalkKit
import Derived.WalkSpells
import Derived.WalkLawsBesides
import Derived.Lib.Hide
import Derived.Outline
import Derived.Below
import Derived.Lib.Case
import Derived.Lib.Bytealg
import Derived.Lib.Strings
namespace Go.Proofs.YtdiimpggoejphaaDoor
open Go.RowKit
namespace CM

def upN (n : Nat) : Nat := if 97 ≤ n ∧ n ≤ 122 then n - 32 else n
theorem upper_nat (b : UInt8) : (Lib.upperB b).toNat = upN b.toNat := by
  unfold Lib.upperB upN
  have h : ∀ n : Fin 256, (Lib.upperB (UInt8.ofNat n.val)).toNat = (if 97 ≤ n.val ∧ n.val ≤ 122 then n.val - 32 else n.val) := by decide +kernel
  have := h ⟨b.toNat, b.toNat_lt⟩
  simp only [UInt8.ofNat_toNat] at this
  exact this
theorem ret_u8 {a b : Int} (h : a = b) : Ending.returned (.int .u8 a) = .returned (.int .u8 b) := by rw [h]
theorem ret_i64 {a b : Int} (h : a = b) : Ending.returned (.int .i64 a) = .returned (.int .i64 b) := by rw [h]
theorem up_any (n : Nat) (w : World) (h : n < 256) :
    Calls Tryd.prog 16 #[.int .u8 (n : Int)] w fun e w' => e = .returned (.int .u8 (upN n : Int)) ∧ w = w' := by
  by_cases h1 : 97 ≤ n ∧ n ≤ 122
  · have i1 : (97 : Int) ≤ (n : Int) := by omega
    have i2 : (n : Int) ≤ 122 := by omega
    have e : upN n = n - 32 := by unfold upN; rw [if_pos h1]
    rw [e]
    clear h1 e
    go_enter Tryd.func16, Tryd.ntmps16
    go_wp2
    go_ret
    exact ⟨ret_u8 (by omega), rfl⟩
  · have e : upN n = n := by unfold upN; rw [if_neg h1]
    rw [e]
    by_cases h2 : 97 ≤ n
    · have i1 : (97 : Int) ≤ (n : Int) := by omega
      have i2 : ¬ (n : Int) ≤ 122 := by omega
      clear h1 e
      go_enter Tryd.func16, Tryd.ntmps16
      go_wp2
      go_ret
      exact ⟨rfl, rfl⟩
    · have i1 : ¬ (97 : Int) ≤ (n : Int) := by omega
      clear h1 e
      go_enter Tryd.func16, Tryd.ntmps16
      go_wp2
      go_ret
      exact ⟨rfl, rfl⟩

/-! ### the comparison, in plain Lean -/
def EqTo (A B : List UInt8) (k : Nat) : Prop := ∀ i, i < k → A[i]? = B[i]?
theorem EqTo.tail {a b : UInt8} {A B : List UInt8} {k : Nat} (h : EqTo (a :: A) (b :: B) (k + 1)) : a = b ∧ EqTo A B k :=
  ⟨by have := h 0 (by omega); simpa using this, fun i hi => by have := h (i + 1) (by omega); simpa using this⟩
theorem cmp_at : ∀ (k : Nat) (A B : List UInt8) (x y : UInt8), EqTo A B k → A[k]? = some x → B[k]? = some y → Lib.compareBytes A B = if x < y then -1 else if y < x then 1 else Lib.compareBytes (A.drop (k + 1)) (B.drop (k + 1))
  | 0, A, B, x, y, _, hx, hy => by
    cases A with
    | nil => simp at hx
    | cons a A => cases B with
      | nil => simp at hy
      | cons b B =>
        simp only [List.getElem?_cons_zero, Option.some.injEq] at hx hy
        subst hx hy
        simp [Lib.compareBytes]
  | k + 1, A, B, x, y, h, hx, hy => by
    cases A with
    | nil => simp at hx
    | cons a A => cases B with
      | nil => simp at hy
      | cons b B =>
        obtain ⟨rfl, ht⟩ := h.tail
        have := cmp_at k A B x y ht (by simpa using hx) (by simpa using hy)
        simp only [Lib.compareBytes]
        rw [if_neg (by simp), if_neg (by simp)]
        simpa using this
theorem cmp_end : ∀ (k : Nat) (A B : List UInt8), EqTo A B k → (A.length ≤ k ∨ B.length ≤ k) → Lib.compareBytes A B = if A.length < B.length then -1 else if B.length < A.length then 1 else 0
  | 0, A, B, _, hk => by
    cases A with
    | nil => cases B <;> simp [Lib.compareBytes]
    | cons a A => cases B with
      | nil => simp [Lib.compareBytes]
      | cons b B => simp at hk
  | k + 1, A, B, h, hk => by
    cases A with
    | nil => cases B <;> simp [Lib.compareBytes]
    | cons a A => cases B with
      | nil => simp [Lib.compareBytes]
      | cons b B =>
        obtain ⟨rfl, ht⟩ := h.tail
        have := cmp_end k A B ht (by simpa using hk)
        simp only [Lib.compareBytes]
        rw [if_neg (by simp), if_neg (by simp), this]
        simp
/-- the folded text -/
def up (s : ByteArray) : List UInt8 := Lib.toUpperA s.data.toList
theorem up_len (s : ByteArray) : (up s).length = s.size := by simp [up, Lib.toUpperA]
theorem up_at (s : ByteArray) (k : Nat) (h : k < s.size) : (up s)[k]? = some (Lib.upperB (s[k]'h)) := by
  unfold up Lib.toUpperA
  rw [List.getElem?_map]
  have h' : k < s.data.toList.length := by simpa using h
  rw [List.getElem?_eq_getElem h']
  rfl
set_option maxHeartbeats 4000000 in
theorem fold_any (a b : ByteArray) (w : World) (ha : a.size ≤ 1048576) (hb : b.size ≤ 1048576) :
    Calls Tryd.prog 8 #[.string a, .string b] w fun e w' => e = .returned (.int .i64 (Lib.compareBytes (up a) (up b))) ∧ w = w' := by
  obtain ⟨n, hn, hna, hnb, hor⟩ : ∃ n : Nat, (n = if b.size < a.size then b.size else a.size) ∧ n ≤ a.size ∧ n ≤ b.size ∧ (a.size ≤ n ∨ b.size ≤ n) := ⟨_, rfl, by split <;> omega, by split <;> omega, by split <;> omega⟩
  have fin : ∀ k, ¬ k < n → k ≤ n → EqTo (up a) (up b) k → Lib.compareBytes (up a) (up b) = if a.size < b.size then -1 else if b.size < a.size then 1 else 0 := by
    intro k h1 h2 h
    have e : k = n := by omega
    have := cmp_end k _ _ h (by rw [up_len, up_len, e]; exact hor)
    rwa [up_len, up_len] at this
  have HF := Lib.hid fin
  clear fin
  by_cases hlt : b.size < a.size
  · rw [if_pos hlt] at hn
    have l1 : (b.size : Int) < (a.size : Int) := by omega
    obtain rfl : n = b.size := hn
    go_enter Tryd.func8, Tryd.ntmps8
    go_wp2
    go_loop [6] (fun vi => ∃ k : Nat, k ≤ b.size ∧ vi = .int .i64 k ∧ EqTo (up a) (up b) k) (fun vi => b.size - (intOf vi).toNat)
    case atStart => exact ⟨0, Nat.zero_le _, rfl, fun i h => by omega⟩
    case round =>
      obtain ⟨k, hk, rfl, heq⟩ := hrel
      have HE := Lib.hid heq
      clear heq
      by_cases hkn : k < b.size
      · have ka : k < a.size := by omega
        have kb : k < b.size := by omega
        have j0 : (0 : Int) ≤ (k : Int) := by omega
        have j1 : (k : Int) < (a.size : Int) := by omega
        have j2 : (k : Int) < (b.size : Int) := by omega
        have HX := Lib.hid (up_at a k ka)
        have HY := Lib.hid (up_at b k kb)
        have HC := Lib.hid (cmp_at k _ _ _ _ HE.out HX.out HY.out)
        have va := up_any (a[k]'ka).toNat
        have vb := up_any (b[k]'kb).toNat
        have HVA := Lib.hid (fun W => va W (UInt8.toNat_lt _))
        have HVB := Lib.hid (fun W => vb W (UInt8.toNat_lt _))
        have HUA := Lib.hid (upper_nat (a[k]'ka))
        have HUB := Lib.hid (upper_nat (b[k]'kb))
        clear va vb
        have tok : True := trivial
        go_wp2_with (first
          | (have _t := tok; go_at_call 16; refine (HVA.out _).mono ?_; rintro e w' ⟨rfl, rfl⟩; clear _t tok)
          | (go_at_call 16; refine (HVB.out _).mono ?_; rintro e w' ⟨rfl, rfl⟩))
        all_goals first
          | (go_ret
             refine ⟨ret_i64 ?_, rfl⟩
             rw [HC.out]
             have hlt' : (Lib.upperB (a[k]'ka)) < (Lib.upperB (b[k]'kb)) := by rw [UInt8.lt_iff_toNat_lt, HUA.out, HUB.out]; omega
             rw [if_pos hlt']; done)
          | (go_ret
             refine ⟨ret_i64 ?_, rfl⟩
             rw [HC.out]
             have hgt' : (Lib.upperB (b[k]'kb)) < (Lib.upperB (a[k]'ka)) := by rw [UInt8.lt_iff_toNat_lt, HUA.out, HUB.out]; omega
             have hnl : ¬ (Lib.upperB (a[k]'ka)) < (Lib.upperB (b[k]'kb)) := by rw [UInt8.lt_iff_toNat_lt, HUA.out, HUB.out]; omega
             rw [if_neg hnl, if_pos hgt']; done)
          | (have HS : Hid (EqTo (up a) (up b) (k + 1)) := Lib.hid (fun i hi => by
               rcases Nat.lt_or_ge i k with h | h
               · exact HE.out i h
               · have e : i = k := by omega
                 rw [e, HX.out, HY.out]
                 have : (Lib.upperB (a[k]'ka)).toNat = (Lib.upperB (b[k]'kb)).toNat := by rw [HUA.out, HUB.out]; omega
                 rw [UInt8.toNat_inj.1 this])
             go_round
             case rel => exact ⟨k + 1, by omega, by go_num, HS.out⟩
             case measure => simp [intOf]; omega)
      · have HR := Lib.hid (HF.out k hkn hk HE.out)
        have hnk : ¬ (k : Int) < (b.size : Int) := by omega
        by_cases s1 : a.size < b.size
        · exact absurd hlt (by omega)
        · have s1' : ¬ (a.size : Int) < (b.size : Int) := by omega
          by_cases s2 : b.size < a.size
          · have s2' : (b.size : Int) < (a.size : Int) := by omega
            go_wp2
            go_ret
            exact ⟨ret_i64 (by rw [HR.out, if_neg s1, if_pos s2]), rfl⟩
          · exact absurd hlt s2
  · rw [if_neg hlt] at hn
    have l1 : ¬ (b.size : Int) < (a.size : Int) := by omega
    obtain rfl : n = a.size := hn
    go_enter Tryd.func8, Tryd.ntmps8
    go_wp2
    go_loop [6] (fun vi => ∃ k : Nat, k ≤ a.size ∧ vi = .int .i64 k ∧ EqTo (up a) (up b) k) (fun vi => a.size - (intOf vi).toNat)
    case atStart => exact ⟨0, Nat.zero_le _, rfl, fun i h => by omega⟩
    case round =>
      obtain ⟨k, hk, rfl, heq⟩ := hrel
      have HE := Lib.hid heq
      clear heq
      by_cases hkn : k < a.size
      · have ka : k < a.size := by omega
        have kb : k < b.size := by omega
        have j0 : (0 : Int) ≤ (k : Int) := by omega
        have j1 : (k : Int) < (a.size : Int) := by omega
        have j2 : (k : Int) < (b.size : Int) := by omega
        have HX := Lib.hid (up_at a k ka)
        have HY := Lib.hid (up_at b k kb)
        have HC := Lib.hid (cmp_at k _ _ _ _ HE.out HX.out HY.out)
        have va := up_any (a[k]'ka).toNat
        have vb := up_any (b[k]'kb).toNat
        have HVA := Lib.hid (fun W => va W (UInt8.toNat_lt _))
        have HVB := Lib.hid (fun W => vb W (UInt8.toNat_lt _))
        have HUA := Lib.hid (upper_nat (a[k]'ka))
        have HUB := Lib.hid (upper_nat (b[k]'kb))
        clear va vb
        have tok : True := trivial
        go_wp2_with (first
          | (have _t := tok; go_at_call 16; refine (HVA.out _).mono ?_; rintro e w' ⟨rfl, rfl⟩; clear _t tok)
          | (go_at_call 16; refine (HVB.out _).mono ?_; rintro e w' ⟨rfl, rfl⟩))
        all_goals first
          | (go_ret
             refine ⟨ret_i64 ?_, rfl⟩
             rw [HC.out]
             have hlt' : (Lib.upperB (a[k]'ka)) < (Lib.upperB (b[k]'kb)) := by rw [UInt8.lt_iff_toNat_lt, HUA.out, HUB.out]; omega
             rw [if_pos hlt']; done)
          | (go_ret
             refine ⟨ret_i64 ?_, rfl⟩
             rw [HC.out]
             have hgt' : (Lib.upperB (b[k]'kb)) < (Lib.upperB (a[k]'ka)) := by rw [UInt8.lt_iff_toNat_lt, HUA.out, HUB.out]; omega
             have hnl : ¬ (Lib.upperB (a[k]'ka)) < (Lib.upperB (b[k]'kb)) := by rw [UInt8.lt_iff_toNat_lt, HUA.out, HUB.out]; omega
             rw [if_neg hnl, if_pos hgt']; done)
          | (have HS : Hid (EqTo (up a) (up b) (k + 1)) := Lib.hid (fun i hi => by
               rcases Nat.lt_or_ge i k with h | h
               · exact HE.out i h
               · have e : i = k := by omega
                 rw [e, HX.out, HY.out]
                 have : (Lib.upperB (a[k]'ka)).toNat = (Lib.upperB (b[k]'kb)).toNat := by rw [HUA.out, HUB.out]; omega
                 rw [UInt8.toNat_inj.1 this])
             go_round
             case rel => exact ⟨k + 1, by omega, by go_num, HS.out⟩
             case measure => simp [intOf]; omega)
      · have HR := Lib.hid (HF.out k hkn hk HE.out)
        have hnk : ¬ (k : Int) < (a.size : Int) := by omega
        by_cases s1 : a.size < b.size
        · have s1' : (a.size : Int) < (b.size : Int) := by omega
          go_wp2
          go_ret
          exact ⟨ret_i64 (by rw [HR.out, if_pos s1]), rfl⟩
        · have s1' : ¬ (a.size : Int) < (b.size : Int) := by omega
          by_cases s2 : b.size < a.size
          · exact absurd s2 hlt
          · have s2' : ¬ (b.size : Int) < (a.size : Int) := by omega
            go_wp2
            go_ret
            exact ⟨ret_i64 (by rw [HR.out, if_neg s1, if_neg s2]), rfl⟩
/-- the text is ASCII -/
def Asc (s : ByteArray) : Prop := ∀ (j : Nat) (b : UInt8), s.data.toList[j]? = some b → b.toNat < 128
theorem asc_of {s : ByteArray} (h : ∀ i (hi : i < s.size), (s[i]'hi).toNat < 128) : Asc s := fun j b hb => by
  obtain ⟨hj, e⟩ := List.getElem?_eq_some_iff.1 hb
  have hj' : j < s.size := by simpa using hj
  have := h j hj'
  rw [← e]
  exact this
set_option maxHeartbeats 1000000 in
theorem ascii_any (s : ByteArray) (w : World) (hs : s.size ≤ 1048576) :
    Calls Tryd.prog 6 #[.string s] w (AnyBool (Asc s) w) := by
  go_enter Tryd.func6, Tryd.ntmps6
  go_wp2
  go_loop [3] (fun vi => ∃ k : Nat, k ≤ s.size ∧ vi = .int .i64 k ∧ ∀ i (hi : i < s.size), i < k → (s[i]'hi).toNat < 128) (fun vi => s.size - (intOf vi).toNat)
  case atStart => exact ⟨0, Nat.zero_le _, rfl, fun i h h0 => by omega⟩
  case round =>
    obtain ⟨k, hk, rfl, hall⟩ := hrel
    have HA := Lib.hid hall
    clear hall
    by_cases hlt : k < s.size
    · have i0 : (0 : Int) ≤ (k : Int) := by omega
      have i1 : (k : Int) < (s.size : Int) := by omega
      by_cases hb : 128 ≤ (s[k]'hlt).toNat
      · have i2 : (128 : Int) ≤ ((s[k]'hlt).toNat : Int) := by omega
        go_wp2
        go_ret
        exact ⟨false, rfl, (fun h => by cases h), rfl⟩
      · have i2 : ¬ (128 : Int) ≤ ((s[k]'hlt).toNat : Int) := by omega
        go_wp2
        go_round
        case rel =>
          refine ⟨k + 1, by omega, by go_num, fun i hi h => ?_⟩
          rcases Nat.lt_or_ge i k with h' | h'
          · exact HA.out i hi h'
          · have e : i = k := by omega
            subst e; omega
        case measure => simp [intOf]; omega
    · have hnk : ¬ (k : Int) < (s.size : Int) := by omega
      go_wp2
      go_ret
      exact ⟨true, rfl, (fun _ => asc_of fun i hi => HA.out i hi (by omega)), rfl⟩
theorem bel2 {w w1 w2 : World} (h1 : Below w.heap.size w w1) (h2 : Below w1.heap.size w1 w2) : Below w.heap.size w w2 := h1.trans (h2.mono h1.size)
set_option maxHeartbeats 1000000 in
theorem compare_any (L : Value) (a b : ByteArray) (w : World) (ha : a.size ≤ 1048576) (hb : b.size ≤ 1048576) (haa : Asc a) (hab : Asc b) :
    Calls Tryd.prog 15 #[.agg #[.bool true, L], .string a, .string b] w fun e w' => e = .returned (.int .i64 (Lib.compareBytes (up a) (up b))) ∧ Below w.heap.size w w' := by
  have HA := Lib.hid haa
  have HB := Lib.hid hab
  clear haa hab
  have tok : True := trivial
  go_enter Tryd.func15, Tryd.ntmps15
  go_wp2_with (first
    | (have _t := tok; go_at_call 19; refine (Tryd.strings_ToUpper_ascii a _ (by omega) HA.out).mono ?_; rintro e w1 ⟨rfl, hb1⟩; have HB1 := Lib.hid hb1; clear hb1 _t tok)
    | (go_at_call 19; refine (Tryd.strings_ToUpper_ascii b _ (by omega) HB.out).mono ?_; rintro e w2 ⟨rfl, hb2⟩; have HB2 := Lib.hid hb2; clear hb2)
    | (go_at_call 20; refine (Tryd.strings_Compare _ _ _).mono ?_; rintro e w3 ⟨rfl, rfl⟩))
  go_ret
  exact ⟨ret_i64 (by simp [up]), ((Below.refl _ _).alloc (Nat.le_refl _) _).trans ((bel2 HB1.out HB2.out).mono (by simp))⟩
set_option maxHeartbeats 1000000 in
theorem zcompare_any (a b : ByteArray) (w : World) (ha : a.size ≤ 1048576) (hb : b.size ≤ 1048576) (haa : Asc a) (hab : Asc b) :
    Calls Tryd.prog 7 #[.bool true, .string a, .string b] w fun e w' => e = .returned (.int .i64 (Lib.compareBytes (up a) (up b))) ∧ Below w.heap.size w w' := by
  have HA := Lib.hid haa
  have HB := Lib.hid hab
  clear haa hab
  go_enter Tryd.func7, Tryd.ntmps7
  go_wp2_with (go_at_call 15; refine (compare_any _ a b _ ha hb HA.out HB.out).mono ?_; rintro e w1 ⟨rfl, hb1⟩)
  go_ret
  exact ⟨rfl, hb1⟩
end CM
end Go.Proofs.YtdiimpggoejphaaDoor
