/- atoiLargeBase and the law's own digit helpers: the plain value of a digit string, and the contracts of atoiLargeBase, zzB1DigitVal, zzB1AllDigits and zzB1Zeros. Conditions: the lengths that each contract names. -/
import Derived.Test.YtefgeoadfjghaaaRows
import Derived.Test.YtefgeoadfjghaaaWrap
import Derived.WalkKit
import Derived.WalkSpells
import Derived.WalkLawsBesides
import Derived.Lib.Hide
import Derived.Laws.IdiomStrings
namespace Go.Proofs.Ytefgeoadfjghaaa.Atoi
open Go.RowKit

theorem ret_i64 {a b : Int} (h : a = b) : Ending.returned (.int .i64 a) = .returned (.int .i64 b) := by rw [h]
theorem ret_bool {a b : Bool} (h : a = b) : Ending.returned (.bool a) = .returned (.bool b) := by rw [h]

/-- the value of a digit of the set, or -1 -/
def digV (c : UInt8) : Int :=
  if 48 ≤ c.toNat ∧ c.toNat ≤ 57 then (c.toNat : Int) - 48
  else if 97 ≤ c.toNat ∧ c.toNat ≤ 122 then (c.toNat : Int) - 87
  else if 65 ≤ c.toNat ∧ c.toNat ≤ 90 then (c.toNat : Int) - 29
  else if c.toNat = 64 then 62
  else if c.toNat = 95 then 63
  else -1
theorem dv_num {c : UInt8} (h : 48 ≤ c.toNat ∧ c.toNat ≤ 57) : digV c = (c.toNat : Int) - 48 := if_pos h
theorem dv_low {c : UInt8} (h : 97 ≤ c.toNat ∧ c.toNat ≤ 122) : digV c = (c.toNat : Int) - 97 + 10 := by
  unfold digV; rw [if_neg (by omega), if_pos h]; omega
theorem dv_up {c : UInt8} (h : 65 ≤ c.toNat ∧ c.toNat ≤ 90) : digV c = (c.toNat : Int) - 65 + 36 := by
  unfold digV; rw [if_neg (by omega), if_neg (by omega), if_pos h]; omega
theorem dv_at {c : UInt8} (h : c.toNat = 64) : digV c = 62 := by
  unfold digV; rw [if_neg (by omega), if_neg (by omega), if_neg (by omega), if_pos h]
theorem dv_us {c : UInt8} (h : c.toNat = 95) : digV c = 63 := by
  unfold digV; rw [if_neg (by omega), if_neg (by omega), if_neg (by omega), if_neg (by omega), if_pos h]
theorem dv_no {c : UInt8} (h1 : ¬ (48 ≤ c.toNat ∧ c.toNat ≤ 57)) (h2 : ¬ (97 ≤ c.toNat ∧ c.toNat ≤ 122)) (h3 : ¬ (65 ≤ c.toNat ∧ c.toNat ≤ 90)) (h4 : c.toNat ≠ 64) (h5 : c.toNat ≠ 95) : digV c = -1 := by
  unfold digV; rw [if_neg h1, if_neg h2, if_neg h3, if_neg h4, if_neg h5]

def okB (base : Int) (c : UInt8) : Bool := decide (0 ≤ digV c ∧ digV c < base)
theorem okB_yes {base : Int} {c : UInt8} {d : Int} (h : digV c = d) (h0 : 0 ≤ d) (h1 : d < base) : okB base c = true := by
  simp only [okB, h, decide_eq_true_eq]; exact ⟨h0, h1⟩
theorem okB_no {base : Int} {c : UInt8} {d : Int} (h : digV c = d) (h1 : d < 0 ∨ base ≤ d) : okB base c = false := by
  simp only [okB, h, decide_eq_false_iff_not]; omega
theorem okB_dig {base : Int} {c : UInt8} (h : okB base c = true) : 0 ≤ digV c ∧ digV c < base := by simpa [okB] using h

def valW (base : Int) (l : List UInt8) : Int := l.foldl (fun n c => wrap64 (wrap64 (n * base) + digV c)) 0
theorem valW_snoc (base : Int) (l : List UInt8) (c : UInt8) : valW base (l ++ [c]) = wrap64 (wrap64 (valW base l * base) + digV c) := by
  simp only [valW, List.foldl_append, List.foldl_cons, List.foldl_nil]
/-- what atoiLargeBase gives -/
def atoiL (base : Int) (l : List UInt8) : Int := if l.all (okB base) then valW base l else 0
theorem atoiL_ok {base : Int} {l : List UInt8} (h : l.all (okB base) = true) : atoiL base l = valW base l := by rw [atoiL, h]; rfl
theorem atoiL_bad {base : Int} {l : List UInt8} {k : Nat} (hk : k < l.length) (h : okB base l[k] = false) : atoiL base l = 0 := by
  have : l.all (okB base) = false := by
    rw [List.all_eq_false]
    exact ⟨l[k], List.getElem_mem hk, by rw [h]; decide⟩
  rw [atoiL, this]; rfl
theorem all_snoc {base : Int} {l : List UInt8} {c : UInt8} (h : l.all (okB base) = true) (g : okB base c = true) : (l ++ [c]).all (okB base) = true := by
  rw [List.all_append, h]; simp [g]

/-- the value without wrapping -/
def valZ (base : Int) (l : List UInt8) : Int := l.foldl (fun n c => n * base + digV c) 0
theorem valZ_snoc (base : Int) (l : List UInt8) (c : UInt8) : valZ base (l ++ [c]) = valZ base l * base + digV c := by
  simp only [valZ, List.foldl_append, List.foldl_cons, List.foldl_nil]

theorem snoc_ind {P : List UInt8 → Prop} (h0 : P []) (h1 : ∀ l c, P l → P (l ++ [c])) (l : List UInt8) : P l := by
  have : ∀ n (l : List UInt8), l.length = n → P l := by
    intro n
    induction n with
    | zero => intro l hl; rw [List.length_eq_zero_iff.1 hl]; exact h0
    | succ n ih =>
      intro l hl
      have hne : l ≠ [] := by intro h; rw [h] at hl; simp at hl
      rw [← List.dropLast_concat_getLast hne]
      exact h1 _ _ (ih _ (by rw [List.length_dropLast, hl]; rfl))
  exact this _ l rfl

theorem valW_cg (base : Int) (l : List UInt8) : Cg (valW base l) (valZ base l) := by
  refine snoc_ind (P := fun l => Cg (valW base l) (valZ base l)) (Cg.refl _) (fun l c ih => ?_) l
  rw [valW_snoc, valZ_snoc]
  exact (Cg.wrap _).trans (((Cg.wrap _).trans (ih.mul (Cg.refl _))).add (Cg.refl _))

theorem valZ_append (base : Int) (s t : List UInt8) : valZ base (s ++ t) = valZ base s * base ^ t.length + valZ base t := by
  refine snoc_ind (P := fun t => valZ base (s ++ t) = valZ base s * base ^ t.length + valZ base t) ?_ (fun l c ih => ?_) t
  · simp [valZ]
  · rw [← List.append_assoc, valZ_snoc, ih, valZ_snoc, List.length_append, List.length_singleton, Int.pow_succ, Int.add_mul, Int.mul_assoc]
    omega

theorem valZ_zeros (base : Int) (n : Nat) : valZ base (49 :: List.replicate n 48) = base ^ n := by
  have e1 : valZ base [49] = 1 := by simp [valZ, digV]
  have e0 : ∀ n, valZ base (List.replicate n 48) = 0 := by
    intro n
    induction n with
    | zero => rfl
    | succ n ih => rw [List.replicate_succ', valZ_snoc, ih]; simp [digV]
  have := valZ_append base [49] (List.replicate n 48)
  rw [List.singleton_append] at this
  rw [this, e1, e0, List.length_replicate]
  omega

theorem valZ_small (base : Int) (hb : base ≤ 1) (l : List UInt8) : l.all (okB base) = true → valZ base l = 0 := by
  refine snoc_ind (P := fun l => l.all (okB base) = true → valZ base l = 0) (fun _ => rfl) (fun l c ih h => ?_) l
  rw [List.all_append] at h
  simp only [List.all_cons, List.all_nil, Bool.and_true, Bool.and_eq_true] at h
  have := okB_dig h.2
  rw [valZ_snoc, ih h.1]
  omega

theorem valW_in (base : Int) (l : List UInt8) : -9223372036854775808 ≤ valW base l ∧ valW base l ≤ 9223372036854775807 := by
  refine snoc_ind (P := fun l => -9223372036854775808 ≤ valW base l ∧ valW base l ≤ 9223372036854775807) (by simp [valW]) (fun l c _ => ?_) l
  rw [valW_snoc]
  exact ⟨wrap64_lo _, wrap64_hi _⟩

/-- the law, in plain numbers -/
theorem concat (base : Int) (s t : List UInt8) (hs : s.all (okB base) = true) (ht : t.all (okB base) = true) :
    atoiL base (s ++ t) = wrap64 (wrap64 (atoiL base s * atoiL base (49 :: List.replicate t.length 48)) + atoiL base t) := by
  have hst : (s ++ t).all (okB base) = true := by rw [List.all_append, hs, ht]; rfl
  rw [atoiL_ok hs, atoiL_ok ht, atoiL_ok hst]
  have b := valW_in base (s ++ t)
  refine Cg.eq_in ?_ b.1 b.2
  refine (valW_cg base (s ++ t)).trans ?_
  rw [valZ_append]
  by_cases hb : base ≤ 1
  · rw [valZ_small base hb s hs, valZ_small base hb t ht]
    have e1 : Cg (valW base s) 0 := by have := valW_cg base s; rwa [valZ_small base hb s hs] at this
    have e2 : Cg (valW base t) 0 := by have := valW_cg base t; rwa [valZ_small base hb t ht] at this
    refine Cg.symm (Cg.trans (((Cg.wrap _).trans (e1.mul (Cg.refl _))).add e2) ?_)
    rw [Int.zero_mul, Int.zero_mul]
    exact Cg.refl _
  · have hz : (49 :: List.replicate t.length 48).all (okB base) = true := by
      rw [List.all_cons, okB_yes (d := 1) (by simp [digV]) (by omega) (by omega), Bool.true_and, List.all_eq_true]
      intro x hx
      rw [List.eq_of_mem_replicate hx]
      exact okB_yes (d := 0) (by simp [digV]) (by omega) (by omega)
    rw [atoiL_ok hz]
    refine Cg.symm (((Cg.wrap _).trans ((valW_cg base s).mul (valW_cg base _))).add (valW_cg base t) |>.trans ?_)
    rw [valZ_zeros]
    exact Cg.refl _

theorem take_snoc (s : ByteArray) (k : Nat) (h : k < s.size) : s.data.toList.take (k + 1) = s.data.toList.take k ++ [s[k]] := by
  rw [List.take_succ_eq_append_getElem (by simpa using h)]; rfl
theorem byte_le (c : UInt8) : (c.toNat : Int) ≤ 255 := by
  have := c.toNat_lt; omega

/-- what a round does -/
theorem round_ok {base N d : Int} {s : ByteArray} {k : Nat} (h : k < s.size) (hN : N = valW base (s.data.toList.take k)) (ha : (s.data.toList.take k).all (okB base) = true) (hd : digV s[k] = d) (h0 : 0 ≤ d) (h1 : d < base) :
    wrap64 (wrap64 (N * base) + d) = valW base (s.data.toList.take (k + 1)) ∧ (s.data.toList.take (k + 1)).all (okB base) = true := by
  rw [take_snoc s k h, valW_snoc, hN, hd]
  exact ⟨rfl, all_snoc ha (okB_yes hd h0 h1)⟩
theorem round_bad {base d : Int} {s : ByteArray} {k : Nat} (h : k < s.size) (hd : digV s[k] = d) (h1 : d < 0 ∨ base ≤ d) : (0 : Int) = atoiL base s.data.toList :=
  (atoiL_bad (k := k) (l := s.data.toList) (by simpa using h) (okB_no hd h1)).symm

set_option maxHeartbeats 2000000 in
theorem atoi_any (s : ByteArray) (base : Int) (w : World) (hs : s.size ≤ 1048576) :
    Calls Try.prog 35 #[.string s, .int .i64 base] w fun e w' => e = .returned (.int .i64 (atoiL base s.data.toList)) ∧ w = w' := by
  go_enter Try.func35, Try.ntmps35
  go_wp2
  go_loop [5, 11] (fun n i => ∃ (k : Nat) (N : Int), k ≤ s.size ∧ i = .int .i64 k ∧ n = .int .i64 N ∧ N = valW base (s.data.toList.take k) ∧ (s.data.toList.take k).all (okB base) = true) (fun _ i => s.size - (intOf i).toNat)
  case atStart => exact ⟨0, 0, Nat.zero_le _, rfl, rfl, rfl, rfl⟩
  case round =>
    obtain ⟨k, N, hk, rfl, rfl, hN, ha⟩ := hrel
    have HN := Lib.hid hN
    have HA := Lib.hid ha
    clear hN ha
    by_cases hlt : k < s.size
    · have hb := byte_le s[k]
      by_cases c1 : 48 ≤ s[k].toNat ∧ s[k].toNat ≤ 57
      · have HD := Lib.hid (dv_num c1)
        by_cases hd : base ≤ (s[k].toNat : Int) - 48
        · go_wp2
          go_ret
          exact ⟨ret_i64 (round_bad hlt HD.out (.inr hd)), rfl⟩
        · go_wp2
          have HR := Lib.hid (round_ok hlt HN.out HA.out HD.out (by omega) (by omega))
          go_round
          case rel => exact ⟨k + 1, _, by omega, by go_num, rfl, HR.out⟩
          case measure => simp [intOf]; omega
      by_cases c2 : 97 ≤ s[k].toNat ∧ s[k].toNat ≤ 122
      · have HD := Lib.hid (dv_low c2)
        by_cases hd : base ≤ (s[k].toNat : Int) - 97 + 10
        · go_wp2
          go_ret
          exact ⟨ret_i64 (round_bad hlt HD.out (.inr hd)), rfl⟩
        · go_wp2
          have HR := Lib.hid (round_ok hlt HN.out HA.out HD.out (by omega) (by omega))
          go_round
          case rel => exact ⟨k + 1, _, by omega, by go_num, rfl, HR.out⟩
          case measure => simp [intOf]; omega
      by_cases c3 : 65 ≤ s[k].toNat ∧ s[k].toNat ≤ 90
      · have HD := Lib.hid (dv_up c3)
        by_cases hd : base ≤ (s[k].toNat : Int) - 65 + 36
        · go_wp2
          go_ret
          exact ⟨ret_i64 (round_bad hlt HD.out (.inr hd)), rfl⟩
        · go_wp2
          have HR := Lib.hid (round_ok hlt HN.out HA.out HD.out (by omega) (by omega))
          go_round
          case rel => exact ⟨k + 1, _, by omega, by go_num, rfl, HR.out⟩
          case measure => simp [intOf]; omega
      by_cases c4 : s[k].toNat = 64
      · have HD := Lib.hid (dv_at c4)
        have c4' : ((s[k].toNat : Int) == 64) = true := by rw [beq_iff_eq]; omega
        have i1 : (s[k].toNat : Int) ≤ 64 := by omega
        have i2 : 64 ≤ (s[k].toNat : Int) := by omega
        clear c4 c1 c2 c3
        by_cases hd : base ≤ 62
        · go_wp2
          go_ret
          exact ⟨ret_i64 (round_bad hlt HD.out (.inr hd)), rfl⟩
        · go_wp2
          have HR := Lib.hid (round_ok hlt HN.out HA.out HD.out (by omega) (by omega))
          go_round
          case rel => exact ⟨k + 1, _, by omega, by go_num, rfl, HR.out⟩
          case measure => simp [intOf]; omega
      by_cases c5 : s[k].toNat = 95
      · have HD := Lib.hid (dv_us c5)
        have c4' : ((s[k].toNat : Int) == 64) = false := by rw [beq_eq_false_iff_ne]; omega
        have c5' : ((s[k].toNat : Int) == 95) = true := by rw [beq_iff_eq]; omega
        have i1 : (s[k].toNat : Int) ≤ 95 := by omega
        have i2 : 95 ≤ (s[k].toNat : Int) := by omega
        clear c5 c4 c1 c2 c3
        by_cases hd : base ≤ 63
        · go_wp2
          go_ret
          exact ⟨ret_i64 (round_bad hlt HD.out (.inr hd)), rfl⟩
        · go_wp2
          have HR := Lib.hid (round_ok hlt HN.out HA.out HD.out (by omega) (by omega))
          go_round
          case rel => exact ⟨k + 1, _, by omega, by go_num, rfl, HR.out⟩
          case measure => simp [intOf]; omega
      have HD := Lib.hid (dv_no c1 c2 c3 c4 c5)
      have c4' : ((s[k].toNat : Int) == 64) = false := by rw [beq_eq_false_iff_ne]; omega
      have c5' : ((s[k].toNat : Int) == 95) = false := by rw [beq_eq_false_iff_ne]; omega
      go_wp2
      all_goals
        go_ret
        exact ⟨ret_i64 (round_bad hlt HD.out (.inl (by omega))), rfl⟩
    · go_wp2
      go_ret
      refine ⟨ret_i64 ?_, rfl⟩
      have e : s.data.toList.take k = s.data.toList := List.take_of_length_le (by simp; omega)
      have := HN.out
      have ha := HA.out
      rw [e] at this ha
      rw [atoiL_ok ha, this]

theorem zatoi_any (s : ByteArray) (base : Int) (w : World) (hs : s.size ≤ 1048576) :
    Calls Try.prog 23 #[.string s, .int .i64 base] w fun e w' => e = .returned (.int .i64 (atoiL base s.data.toList)) ∧ w = w' := by
  go_enter Try.func23, Try.ntmps23
  go_wp2_with (go_at_call 35; refine (atoi_any _ _ _ hs).mono ?_; rintro e w' ⟨rfl, rfl⟩)
  go_ret
  exact ⟨rfl, rfl⟩

/-- the law's table of digits -/
def digTab : ByteArray := ⟨#[48, 49, 50, 51, 52, 53, 54, 55, 56, 57, 97, 98, 99, 100, 101, 102, 103, 104, 105, 106, 107, 108, 109, 110, 111, 112, 113, 114, 115, 116, 117, 118, 119, 120, 121, 122, 65, 66, 67, 68, 69, 70, 71, 72, 73, 74, 75, 76, 77, 78, 79, 80, 81, 82, 83, 84, 85, 86, 87, 88, 89, 90, 64, 95]⟩
theorem digTab_size : digTab.size = 64 := by decide +kernel
theorem digTab_at : ∀ k : Fin 64, digV (digTab[k.val]'(by rw [digTab_size]; exact k.isLt)) = (k.val : Int) := by decide +kernel
theorem digTab_none : ∀ c : Fin 256, (∀ k : Fin 64, (digTab[k.val]'(by rw [digTab_size]; exact k.isLt)).toNat ≠ c.val) → digV (UInt8.ofNat c.val) = -1 := by decide +kernel

theorem digTab_here (c : UInt8) (k : Nat) (hk : k < digTab.size) (h : digTab[k] = c) : (k : Int) = digV c := by
  rw [← h]; exact (digTab_at ⟨k, by rw [digTab_size] at hk; exact hk⟩).symm
theorem digTab_miss (c : UInt8) (h : ∀ (k : Nat) (hk : k < digTab.size), digTab[k] ≠ c) : digV c = -1 := by
  have := digTab_none ⟨c.toNat, c.toNat_lt⟩ (fun k hk => h k.val (by rw [digTab_size]; exact k.isLt) (UInt8.toNat_inj.1 hk))
  simpa using this

set_option maxHeartbeats 1000000 in
set_option maxRecDepth 20000 in
theorem digVal_any (c : UInt8) (w : World) :
    Calls Try.prog 34 #[.int .u8 (c.toNat : Int)] w fun e w' => e = .returned (.int .i64 (digV c)) ∧ w = w' := by
  have hfold : (⟨#[48, 49, 50, 51, 52, 53, 54, 55, 56, 57, 97, 98, 99, 100, 101, 102, 103, 104, 105, 106, 107, 108, 109, 110, 111, 112, 113, 114, 115, 116, 117, 118, 119, 120, 121, 122, 65, 66, 67, 68, 69, 70, 71, 72, 73, 74, 75, 76, 77, 78, 79, 80, 81, 82, 83, 84, 85, 86, 87, 88, 89, 90, 64, 95]⟩ : ByteArray) = digTab := rfl
  have hsz := digTab_size
  obtain ⟨n, hn⟩ : ∃ n : Int, n = (c.toNat : Int) := ⟨_, rfl⟩
  rw [← hn]
  have HN := Lib.hid hn
  clear hn
  go_enter Try.func34, Try.ntmps34
  go_wp2
  go_loop [3] (fun i => ∃ k : Nat, k ≤ 64 ∧ i = .int .i64 k ∧ ∀ (j : Nat) (hj : j < digTab.size), j < k → digTab[j] ≠ c) (fun i => 64 - (intOf i).toNat)
  case atStart => exact ⟨0, by omega, rfl, fun j _ h => by omega⟩
  case round =>
    obtain ⟨k, hk, rfl, hall⟩ := hrel
    have HA := Lib.hid hall
    clear hall
    by_cases hlt : k < 64
    · have hlt' : k < digTab.size := by rw [hsz]; exact hlt
      by_cases he : digTab[k] = c
      · have hb : ((digTab[k].toNat : Int) == n) = true := by rw [beq_iff_eq, HN.out, he]
        have HE := Lib.hid he
        clear he
        go_wp2
        go_ret
        exact ⟨ret_i64 (digTab_here c k hlt' HE.out), rfl⟩
      · have hb : ((digTab[k].toNat : Int) == n) = false := by
          rw [beq_eq_false_iff_ne, HN.out]
          intro h
          exact he (UInt8.toNat_inj.1 (by omega))
        have HE := Lib.hid he
        clear he
        go_wp2
        go_round
        case rel => exact ⟨k + 1, by omega, by go_num, fun j hj h => by
          rcases Nat.lt_or_ge j k with g | g
          · exact HA.out j hj g
          · obtain rfl : j = k := by omega
            exact HE.out⟩
        case measure => simp [intOf]; omega
    · go_wp2
      go_ret
      exact ⟨ret_i64 (digTab_miss c (fun j hj => HA.out j hj (by rw [digTab_size] at hj; omega))).symm, rfl⟩
end Go.Proofs.Ytefgeoadfjghaaa.Atoi
