/- The contracts of zzValidUTF8 and zzHasNUL: true says that the whole text is whole; false that no byte is NUL. Conditions: the text is short. -/
import Derived.Test.YtocahmpkgjpkdaaDoorSlices
import Derived.Test.YtocahmpkgjpkdaaDoorPPlain
import Derived.WalkKit
import Derived.WalkSpells
import Derived.WalkLawsBesides
import Derived.Lib.Hide
import Derived.Below
namespace Go.Proofs.YtocahmpkgjpkdaaDoor
open Go.RowKit
namespace PK

set_option maxRecDepth 100000 in
theorem and_all : ∀ x : Fin 256, bits .and .u8 (x.val : Int) 224 = ((x.val / 32 * 32 : Nat) : Int) ∧ bits .and .u8 (x.val : Int) 240 = ((x.val / 16 * 16 : Nat) : Int) ∧ bits .and .u8 (x.val : Int) 248 = ((x.val / 8 * 8 : Nat) : Int) ∧ bits .and .u8 (x.val : Int) 192 = ((x.val / 64 * 64 : Nat) : Int) := by decide
theorem and224 (b : UInt8) : bits .and .u8 (b.toNat : Int) 224 = ((b.toNat / 32 * 32 : Nat) : Int) := (and_all ⟨b.toNat, b.toNat_lt⟩).1
theorem and240 (b : UInt8) : bits .and .u8 (b.toNat : Int) 240 = ((b.toNat / 16 * 16 : Nat) : Int) := (and_all ⟨b.toNat, b.toNat_lt⟩).2.1
theorem and248 (b : UInt8) : bits .and .u8 (b.toNat : Int) 248 = ((b.toNat / 8 * 8 : Nat) : Int) := (and_all ⟨b.toNat, b.toNat_lt⟩).2.2.1
theorem and192 (b : UInt8) : bits .and .u8 (b.toNat : Int) 192 = ((b.toNat / 64 * 64 : Nat) : Int) := (and_all ⟨b.toNat, b.toNat_lt⟩).2.2.2
theorem get_at (s : ByteArray) (k : Nat) (h : k < s.size) : s.get! k = s[k]'h := by
  have := Go.get_at s k h
  simpa using this
/-- the inner loop's words: k bytes read, r so far -/
def In (s : ByteArray) (i n : Nat) (vr vk : Value) : Prop := ∃ k : Nat, 1 ≤ k ∧ k ≤ n ∧ vk = .int .i64 k ∧ vr = .int .i32 (acc s i n k) ∧ ∀ j, 1 ≤ j → j < k → (s.get! (i + j)).toNat / 64 = 2
theorem acc_lt (s : ByteArray) (i n : Nat) (hn : n = 2 ∨ n = 3 ∨ n = 4) : acc s i n 1 < 32 ∧ acc s i n 2 < 2048 ∧ acc s i n 3 < 131072 ∧ acc s i n 4 < 8388608 := by
  have h1 : acc s i n 1 < 32 := by
    show hd n _ < 32
    unfold hd
    repeat' split
    all_goals omega
  have e2 : acc s i n 2 = acc s i n 1 * 64 + (s.get! (i + 1)).toNat % 64 := rfl
  have e3 : acc s i n 3 = acc s i n 2 * 64 + (s.get! (i + 2)).toNat % 64 := rfl
  have e4 : acc s i n 4 = acc s i n 3 * 64 + (s.get! (i + 3)).toNat % 64 := rfl
  omega
theorem acc_lt3 (s : ByteArray) (i n k : Nat) (hn : n = 2 ∨ n = 3 ∨ n = 4) (hk : 1 ≤ k) (h : k ≤ 3) : acc s i n k < 131072 := by
  have := acc_lt s i n hn
  obtain rfl | rfl | rfl : k = 1 ∨ k = 2 ∨ k = 3 := by omega
  all_goals omega
set_option maxRecDepth 100000 in
set_option maxHeartbeats 8000000 in
theorem valid_any (s : ByteArray) (w : World) (hs : s.size ≤ 1048576) : Calls Tryd.prog 5 #[.string s] w (AnyBool (Valid s) w) := by
  go_enter Tryd.func5, Tryd.ntmps5
  go_wp2
  go_loop [3] (fun vi => ∃ i k : Nat, i ≤ s.size ∧ vi = .int .i64 i ∧ Chain s k i) (fun vi => s.size - (intOf vi).toNat)
  case atStart => exact ⟨0, 0, Nat.zero_le _, rfl, Chain.zero s⟩
  case round =>
    obtain ⟨i, ch, hi, rfl, hch⟩ := hrel
    have HCH := Lib.hid hch
    clear hch
    by_cases hlt : i < s.size
    · have i0 : (0 : Int) ≤ (i : Int) := by omega
      have i1 : (i : Int) < (s.size : Int) := by omega
      have HG := Lib.hid (get_at s i hlt)
      have hb := (s[i]'hlt).toNat_lt
      by_cases ha : (s[i]'hlt).toNat < 128
      · go_wp2
        go_round
        case rel =>
          have hg := good_ascii (s := s) (i := i) (by rw [HG.out]; exact ha)
          exact ⟨i + 1, ch + 1, by omega, by go_num, HCH.out.step hg.1 hg.2⟩
        case measure => simp [intOf]; omega
      have a2 := and224 (s[i]'hlt)
      have a3 := and240 (s[i]'hlt)
      have a4 := and248 (s[i]'hlt)
      by_cases hk2 : (s[i]'hlt).toNat / 32 = 6
      · have HK : Hid (Kind 2 (s.get! i).toNat 128) := Lib.hid (by rw [HG.out]; unfold Kind; omega)
        have hm := Lib.hid (show hd 2 (s.get! i).toNat = (s[i]'hlt).toNat % 32 by rw [HG.out]; rfl)
        have f1 : bits .and .u8 ((s[i]'hlt).toNat : Int) 224 = 192 := by rw [a2, hk2]; rfl
        by_cases hsz : s.size < i + 2
        · have j1 : (s.size : Int) < (i : Int) + 2 := by omega
          go_wp2
          go_ret
          exact ⟨false, rfl, (fun h => by cases h), rfl⟩
        have j1 : ¬ (s.size : Int) < (i : Int) + 2 := by omega
        go_wp2
        go_loop [7, 8] (fun vr vk => In s i 2 vr vk) (fun _ vk => 2 - (intOf vk).toNat)
        case atStart => exact ⟨1, by omega, by omega, by go_num, (by show _ = Value.int .i32 (hd 2 (s.get! i).toNat : Nat); rw [hm.out]; simp), fun j h1 h2 => by omega⟩
        case round =>
          obtain ⟨k, k1, kn, rfl, rfl, hc⟩ := hrel
          have HC := Lib.hid hc
          clear hc
          by_cases hkn : k < 2
          · have hik : i + k < s.size := by omega
            have m0 : (0 : Int) ≤ (i : Int) + (k : Int) := by omega
            have m1 : (i : Int) + (k : Int) < (s.size : Int) := by omega
            have m2 : (k : Int) < 2 := by omega
            have HGK := Lib.hid (get_at s (i + k) hik)
            have hcb := (s[i + k]'hik).toNat_lt
            by_cases hct : (s[i + k]'hik).toNat / 64 = 2
            · have ac : bits .and .u8 ((s[i + k]'hik).toNat : Int) 192 = 128 := by rw [and192, hct]; rfl
              have hal := acc_lt3 s i 2 k (by omega) k1 (by omega)
              have ao : bits .or .i32 ((acc s i 2 k : Int) * 64) (((s[i + k]'hik).toNat : Int) % 64) = (acc s i 2 k : Int) * 64 + ((s[i + k]'hik).toNat : Int) % 64 := i32_or6 _ _ (by omega) (by omega) (by omega) (by omega) (by omega)
              go_wp2
              go_round
              case rel =>
                refine ⟨k + 1, by omega, by omega, by go_num, by rw [acc_succ _ _ _ _ k1, HGK.out]; go_num, fun j h1 h2 => ?_⟩
                rcases Nat.lt_or_ge j k with h | h
                · exact HC.out j h1 h
                · obtain rfl : j = k := by omega
                  rw [HGK.out]; exact hct
              case measure => simp [intOf]; omega
            · have ac : (bits .and .u8 ((s[i + k]'hik).toNat : Int) 192 == 128) = false := by rw [and192]; simp; omega
              go_wp2
              go_ret
              exact ⟨false, rfl, (fun h => by cases h), rfl⟩
          · obtain rfl : k = 2 := by omega
            have hal := (acc_lt s i 2 (by omega))
            clear hkn
            by_cases t1 : acc s i 2 2 < 128
            · have q1 : (acc s i 2 2 : Int) < 128 := by omega
              go_wp2
              go_ret
              exact ⟨false, rfl, (fun h => by cases h), rfl⟩
            have q1 : ¬ (acc s i 2 2 : Int) < 128 := by omega
            by_cases t2 : 1114111 < acc s i 2 2
            · have q2 : (1114111 : Int) < (acc s i 2 2 : Int) := by omega
              go_wp2
              go_ret
              exact ⟨false, rfl, (fun h => by cases h), rfl⟩
            have q2 : ¬ (1114111 : Int) < (acc s i 2 2 : Int) := by omega
            by_cases t3 : 55296 ≤ acc s i 2 2
            · have q3 : (55296 : Int) ≤ (acc s i 2 2 : Int) := by omega
              by_cases t4 : acc s i 2 2 ≤ 57343
              · have q4 : (acc s i 2 2 : Int) ≤ 57343 := by omega
                go_wp2
                go_ret
                exact ⟨false, rfl, (fun h => by cases h), rfl⟩
              have q4 : ¬ (acc s i 2 2 : Int) ≤ 57343 := by omega
              go_wp2
              go_round
              case rel =>
                have hg := good_n HK.out (by omega) HC.out (by omega) (by omega) (by omega)
                exact ⟨i + 2, ch + 1, by omega, by go_num, HCH.out.step hg.1 hg.2⟩
              case measure => simp [intOf]; omega
            have q3 : ¬ (55296 : Int) ≤ (acc s i 2 2 : Int) := by omega
            go_wp2
            go_round
            case rel =>
              have hg := good_n HK.out (by omega) HC.out (by omega) (by omega) (by omega)
              exact ⟨i + 2, ch + 1, by omega, by go_num, HCH.out.step hg.1 hg.2⟩
            case measure => simp [intOf]; omega
      by_cases hk3 : (s[i]'hlt).toNat / 16 = 14
      · have HK : Hid (Kind 3 (s.get! i).toNat 2048) := Lib.hid (by rw [HG.out]; unfold Kind; omega)
        have hm := Lib.hid (show hd 3 (s.get! i).toNat = (s[i]'hlt).toNat % 16 by rw [HG.out]; rfl)
        have f1 : bits .and .u8 ((s[i]'hlt).toNat : Int) 224 = 224 := by rw [a2]; have : (s[i]'hlt).toNat / 32 = 7 := (by omega); rw [this]; rfl
        have f2 : bits .and .u8 ((s[i]'hlt).toNat : Int) 240 = 224 := by rw [a3, hk3]; rfl
        by_cases hsz : s.size < i + 3
        · have j1 : (s.size : Int) < (i : Int) + 3 := by omega
          go_wp2
          go_ret
          exact ⟨false, rfl, (fun h => by cases h), rfl⟩
        have j1 : ¬ (s.size : Int) < (i : Int) + 3 := by omega
        go_wp2
        go_loop [7, 8] (fun vr vk => In s i 3 vr vk) (fun _ vk => 3 - (intOf vk).toNat)
        case atStart => exact ⟨1, by omega, by omega, by go_num, (by show _ = Value.int .i32 (hd 3 (s.get! i).toNat : Nat); rw [hm.out]; simp), fun j h1 h2 => by omega⟩
        case round =>
          obtain ⟨k, k1, kn, rfl, rfl, hc⟩ := hrel
          have HC := Lib.hid hc
          clear hc
          by_cases hkn : k < 3
          · have hik : i + k < s.size := by omega
            have m0 : (0 : Int) ≤ (i : Int) + (k : Int) := by omega
            have m1 : (i : Int) + (k : Int) < (s.size : Int) := by omega
            have m2 : (k : Int) < 3 := by omega
            have HGK := Lib.hid (get_at s (i + k) hik)
            have hcb := (s[i + k]'hik).toNat_lt
            by_cases hct : (s[i + k]'hik).toNat / 64 = 2
            · have ac : bits .and .u8 ((s[i + k]'hik).toNat : Int) 192 = 128 := by rw [and192, hct]; rfl
              have hal := acc_lt3 s i 3 k (by omega) k1 (by omega)
              have ao : bits .or .i32 ((acc s i 3 k : Int) * 64) (((s[i + k]'hik).toNat : Int) % 64) = (acc s i 3 k : Int) * 64 + ((s[i + k]'hik).toNat : Int) % 64 := i32_or6 _ _ (by omega) (by omega) (by omega) (by omega) (by omega)
              go_wp2
              go_round
              case rel =>
                refine ⟨k + 1, by omega, by omega, by go_num, by rw [acc_succ _ _ _ _ k1, HGK.out]; go_num, fun j h1 h2 => ?_⟩
                rcases Nat.lt_or_ge j k with h | h
                · exact HC.out j h1 h
                · obtain rfl : j = k := by omega
                  rw [HGK.out]; exact hct
              case measure => simp [intOf]; omega
            · have ac : (bits .and .u8 ((s[i + k]'hik).toNat : Int) 192 == 128) = false := by rw [and192]; simp; omega
              go_wp2
              go_ret
              exact ⟨false, rfl, (fun h => by cases h), rfl⟩
          · obtain rfl : k = 3 := by omega
            have hal := (acc_lt s i 3 (by omega))
            clear hkn
            by_cases t1 : acc s i 3 3 < 2048
            · have q1 : (acc s i 3 3 : Int) < 2048 := by omega
              go_wp2
              go_ret
              exact ⟨false, rfl, (fun h => by cases h), rfl⟩
            have q1 : ¬ (acc s i 3 3 : Int) < 2048 := by omega
            by_cases t2 : 1114111 < acc s i 3 3
            · have q2 : (1114111 : Int) < (acc s i 3 3 : Int) := by omega
              go_wp2
              go_ret
              exact ⟨false, rfl, (fun h => by cases h), rfl⟩
            have q2 : ¬ (1114111 : Int) < (acc s i 3 3 : Int) := by omega
            by_cases t3 : 55296 ≤ acc s i 3 3
            · have q3 : (55296 : Int) ≤ (acc s i 3 3 : Int) := by omega
              by_cases t4 : acc s i 3 3 ≤ 57343
              · have q4 : (acc s i 3 3 : Int) ≤ 57343 := by omega
                go_wp2
                go_ret
                exact ⟨false, rfl, (fun h => by cases h), rfl⟩
              have q4 : ¬ (acc s i 3 3 : Int) ≤ 57343 := by omega
              go_wp2
              go_round
              case rel =>
                have hg := good_n HK.out (by omega) HC.out (by omega) (by omega) (by omega)
                exact ⟨i + 3, ch + 1, by omega, by go_num, HCH.out.step hg.1 hg.2⟩
              case measure => simp [intOf]; omega
            have q3 : ¬ (55296 : Int) ≤ (acc s i 3 3 : Int) := by omega
            go_wp2
            go_round
            case rel =>
              have hg := good_n HK.out (by omega) HC.out (by omega) (by omega) (by omega)
              exact ⟨i + 3, ch + 1, by omega, by go_num, HCH.out.step hg.1 hg.2⟩
            case measure => simp [intOf]; omega
      by_cases hk4 : (s[i]'hlt).toNat / 8 = 30
      · have HK : Hid (Kind 4 (s.get! i).toNat 65536) := Lib.hid (by rw [HG.out]; unfold Kind; omega)
        have hm := Lib.hid (show hd 4 (s.get! i).toNat = (s[i]'hlt).toNat % 8 by rw [HG.out]; rfl)
        have f1 : bits .and .u8 ((s[i]'hlt).toNat : Int) 224 = 224 := by rw [a2]; have : (s[i]'hlt).toNat / 32 = 7 := (by omega); rw [this]; rfl
        have f2 : bits .and .u8 ((s[i]'hlt).toNat : Int) 240 = 240 := by rw [a3]; have : (s[i]'hlt).toNat / 16 = 15 := (by omega); rw [this]; rfl
        have f3 : bits .and .u8 ((s[i]'hlt).toNat : Int) 248 = 240 := by rw [a4, hk4]; rfl
        by_cases hsz : s.size < i + 4
        · have j1 : (s.size : Int) < (i : Int) + 4 := by omega
          go_wp2
          go_ret
          exact ⟨false, rfl, (fun h => by cases h), rfl⟩
        have j1 : ¬ (s.size : Int) < (i : Int) + 4 := by omega
        go_wp2
        go_loop [7, 8] (fun vr vk => In s i 4 vr vk) (fun _ vk => 4 - (intOf vk).toNat)
        case atStart => exact ⟨1, by omega, by omega, by go_num, (by show _ = Value.int .i32 (hd 4 (s.get! i).toNat : Nat); rw [hm.out]; simp), fun j h1 h2 => by omega⟩
        case round =>
          obtain ⟨k, k1, kn, rfl, rfl, hc⟩ := hrel
          have HC := Lib.hid hc
          clear hc
          by_cases hkn : k < 4
          · have hik : i + k < s.size := by omega
            have m0 : (0 : Int) ≤ (i : Int) + (k : Int) := by omega
            have m1 : (i : Int) + (k : Int) < (s.size : Int) := by omega
            have m2 : (k : Int) < 4 := by omega
            have HGK := Lib.hid (get_at s (i + k) hik)
            have hcb := (s[i + k]'hik).toNat_lt
            by_cases hct : (s[i + k]'hik).toNat / 64 = 2
            · have ac : bits .and .u8 ((s[i + k]'hik).toNat : Int) 192 = 128 := by rw [and192, hct]; rfl
              have hal := acc_lt3 s i 4 k (by omega) k1 (by omega)
              have ao : bits .or .i32 ((acc s i 4 k : Int) * 64) (((s[i + k]'hik).toNat : Int) % 64) = (acc s i 4 k : Int) * 64 + ((s[i + k]'hik).toNat : Int) % 64 := i32_or6 _ _ (by omega) (by omega) (by omega) (by omega) (by omega)
              go_wp2
              go_round
              case rel =>
                refine ⟨k + 1, by omega, by omega, by go_num, by rw [acc_succ _ _ _ _ k1, HGK.out]; go_num, fun j h1 h2 => ?_⟩
                rcases Nat.lt_or_ge j k with h | h
                · exact HC.out j h1 h
                · obtain rfl : j = k := by omega
                  rw [HGK.out]; exact hct
              case measure => simp [intOf]; omega
            · have ac : (bits .and .u8 ((s[i + k]'hik).toNat : Int) 192 == 128) = false := by rw [and192]; simp; omega
              go_wp2
              go_ret
              exact ⟨false, rfl, (fun h => by cases h), rfl⟩
          · obtain rfl : k = 4 := by omega
            have hal := (acc_lt s i 4 (by omega))
            clear hkn
            by_cases t1 : acc s i 4 4 < 65536
            · have q1 : (acc s i 4 4 : Int) < 65536 := by omega
              go_wp2
              go_ret
              exact ⟨false, rfl, (fun h => by cases h), rfl⟩
            have q1 : ¬ (acc s i 4 4 : Int) < 65536 := by omega
            by_cases t2 : 1114111 < acc s i 4 4
            · have q2 : (1114111 : Int) < (acc s i 4 4 : Int) := by omega
              go_wp2
              go_ret
              exact ⟨false, rfl, (fun h => by cases h), rfl⟩
            have q2 : ¬ (1114111 : Int) < (acc s i 4 4 : Int) := by omega
            by_cases t3 : 55296 ≤ acc s i 4 4
            · have q3 : (55296 : Int) ≤ (acc s i 4 4 : Int) := by omega
              by_cases t4 : acc s i 4 4 ≤ 57343
              · have q4 : (acc s i 4 4 : Int) ≤ 57343 := by omega
                go_wp2
                go_ret
                exact ⟨false, rfl, (fun h => by cases h), rfl⟩
              have q4 : ¬ (acc s i 4 4 : Int) ≤ 57343 := by omega
              go_wp2
              go_round
              case rel =>
                have hg := good_n HK.out (by omega) HC.out (by omega) (by omega) (by omega)
                exact ⟨i + 4, ch + 1, by omega, by go_num, HCH.out.step hg.1 hg.2⟩
              case measure => simp [intOf]; omega
            have q3 : ¬ (55296 : Int) ≤ (acc s i 4 4 : Int) := by omega
            go_wp2
            go_round
            case rel =>
              have hg := good_n HK.out (by omega) HC.out (by omega) (by omega) (by omega)
              exact ⟨i + 4, ch + 1, by omega, by go_num, HCH.out.step hg.1 hg.2⟩
            case measure => simp [intOf]; omega
      have f1 : (bits .and .u8 ((s[i]'hlt).toNat : Int) 224 == 192) = false := by rw [a2]; simp; omega
      have f2 : (bits .and .u8 ((s[i]'hlt).toNat : Int) 240 == 224) = false := by rw [a3]; simp; omega
      have f3 : (bits .and .u8 ((s[i]'hlt).toNat : Int) 248 == 240) = false := by rw [a4]; simp; omega
      clear a2 a3 a4
      go_wp2
      go_ret
      exact ⟨false, rfl, (fun h => by cases h), rfl⟩
    · obtain rfl : i = s.size := by omega
      go_wp2
      go_ret
      exact ⟨true, rfl, (fun _ => ⟨ch, HCH.out⟩), rfl⟩
/-- no byte is NUL -/
def NoNul (s : ByteArray) : Prop := ∀ i (h : i < s.size), (s[i]'h).toNat ≠ 0
def OnFalse (x : Bool) (P : Prop) : Prop := x = false → P
def NulV (s : ByteArray) (w : World) (e : Ending) (w' : World) : Prop := ∃ x : Bool, e = .returned (.bool x) ∧ OnFalse x (NoNul s) ∧ w = w'
set_option maxHeartbeats 2000000 in
theorem nul_any (s : ByteArray) (w : World) (hs : s.size ≤ 1048576) : Calls Tryd.prog 6 #[.string s] w (NulV s w) := by
  go_enter Tryd.func6, Tryd.ntmps6
  go_wp2
  go_loop [3] (fun vi => ∃ i : Nat, i ≤ s.size ∧ vi = .int .i64 i ∧ ∀ j, j < i → ∀ h : j < s.size, (s[j]'h).toNat ≠ 0) (fun vi => s.size - (intOf vi).toNat)
  case atStart => exact ⟨0, Nat.zero_le _, rfl, fun j hj => absurd hj (Nat.not_lt_zero j)⟩
  case round =>
    obtain ⟨i, hi, rfl, hall⟩ := hrel
    have HA := Lib.hid hall
    clear hall
    by_cases hlt : i < s.size
    · have i0 : (0 : Int) ≤ (i : Int) := by omega
      have i1 : (i : Int) < (s.size : Int) := by omega
      by_cases hz : (s[i]'hlt).toNat = 0
      · go_wp2
        go_ret
        exact ⟨true, rfl, (fun h => by cases h), rfl⟩
      · have z1 : (((s[i]'hlt).toNat : Int) == 0) = false := by simp; omega
        go_wp2
        go_round
        case rel =>
          refine ⟨i + 1, by omega, by go_num, fun j hj h => ?_⟩
          rcases Nat.lt_or_ge j i with h2 | h2
          · exact HA.out j h2 h
          · obtain rfl : j = i := by omega
            exact hz
        case measure => simp [intOf]; omega
    · have hni : ¬ (i : Int) < (s.size : Int) := by omega
      go_wp2
      go_ret
      exact ⟨false, rfl, (fun _ j h => HA.out j (by omega) h), rfl⟩
end PK
end Go.Proofs.YtocahmpkgjpkdaaDoor
