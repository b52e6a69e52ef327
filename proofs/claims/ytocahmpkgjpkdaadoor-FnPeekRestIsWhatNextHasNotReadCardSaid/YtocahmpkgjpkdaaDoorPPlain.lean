/- Plain words for FnPeekRestIsWhatNextHasNotRead: the places that a decoder steps to, and when the encoding that starts there is whole. No program in sight. -/
import Derived.Lib.DecodeN
import Derived.Lib.MapLaws
import Derived.Lib.TrimUEq
import Derived.Lib.RuneBytes
import Derived.Lib.RuneCount
namespace Go.Proofs.YtocahmpkgjpkdaaDoor
namespace PK
open Go.Lib

/-- a whole encoding starts at i -/
def Good (s : ByteArray) (i : Nat) : Prop := ¬ ((Utf8.decode s i).1 = 65533 ∧ (Utf8.decode s i).2 = 1)
/-- the k-th place -/
def it (s : ByteArray) : Nat → Nat
  | 0 => 0
  | k + 1 => it s k + (Utf8.decode s (it s k)).2
theorem it_succ (s : ByteArray) (k : Nat) : it s (k + 1) = it s k + (Utf8.decode s (it s k)).2 := rfl
theorem width_pos (s : ByteArray) (i : Nat) : 1 ≤ (Utf8.decode s i).2 := by
  rw [decode_at]; exact decodeN_ge1 _ _ _ _ _
theorem it_lt (s : ByteArray) (k : Nat) : it s k < it s (k + 1) := by
  have := width_pos s (it s k)
  rw [it_succ]; omega
theorem it_mono (s : ByteArray) (k : Nat) : ∀ d, it s k + d ≤ it s (k + d)
  | 0 => Nat.le_refl _
  | d + 1 => by
    have h1 := it_mono s k d
    have h2 := it_lt s (k + d)
    have : k + (d + 1) = k + d + 1 := by omega
    rw [this]; omega
/-- all is whole up to the k-th place, which is i -/
def Chain (s : ByteArray) (k i : Nat) : Prop := it s k = i ∧ ∀ j, j < k → Good s (it s j)
theorem Chain.zero (s : ByteArray) : Chain s 0 0 := ⟨rfl, fun j hj => absurd hj (Nat.not_lt_zero j)⟩
theorem Chain.step {s : ByteArray} {k i n : Nat} (h : Chain s k i) (hg : Good s i) (hn : (Utf8.decode s i).2 = n) : Chain s (k + 1) (i + n) := by
  obtain ⟨rfl, h2⟩ := h
  refine ⟨by rw [it_succ, hn], fun j hj => ?_⟩
  rcases Nat.lt_or_ge j k with h | h
  · exact h2 j h
  · obtain rfl : j = k := by omega
    exact hg
/-- the whole text is whole -/
def Valid (s : ByteArray) : Prop := ∃ k, Chain s k s.size
/-- where the text is whole, a place before the end has a whole encoding -/
theorem Valid.good {s : ByteArray} (h : Valid s) (j : Nat) (hj : it s j < s.size) : Good s (it s j) := by
  obtain ⟨k, h1, h2⟩ := h
  refine h2 j ?_
  rcases Nat.lt_or_ge j k with h | h
  · exact h
  · exfalso
    obtain ⟨d, rfl⟩ := Nat.le.dest h
    have := it_mono s k d
    omega
/-- and no place lies behind the end before the end is met -/
theorem Valid.le {s : ByteArray} (h : Valid s) (j : Nat) (hj : it s j < s.size) : it s (j + 1) ≤ s.size := by
  obtain ⟨k, h1, h2⟩ := h
  rcases Nat.lt_or_ge j k with h | h
  · obtain ⟨d, hd⟩ := Nat.le.dest (show j + 1 ≤ k from h)
    have := it_mono s (j + 1) d
    rw [hd] at this; omega
  · exfalso
    obtain ⟨d, rfl⟩ := Nat.le.dest h
    have := it_mono s k d
    omega
theorem good_ascii {s : ByteArray} {i : Nat} (h : (s.get! i).toNat < 128) : Good s i ∧ (Utf8.decode s i).2 = 1 := by
  unfold Good
  rw [decode_at, decodeN_ascii _ _ _ _ _ h]
  exact ⟨fun hh => by have := hh.1; omega, rfl⟩
/-- the head byte's bits -/
def hd (n b : Nat) : Nat := if n = 2 then b % 32 else if n = 3 then b % 16 else b % 8
/-- the head byte is that of n bytes -/
def Kind (n b m : Nat) : Prop := (n = 2 ∧ b / 32 = 6 ∧ m = 128) ∨ (n = 3 ∧ b / 16 = 14 ∧ m = 2048) ∨ (n = 4 ∧ b / 8 = 30 ∧ m = 65536)
/-- the code that the first k bytes give -/
def acc (s : ByteArray) (i n : Nat) : Nat → Nat
  | 0 => 0
  | 1 => hd n (s.get! i).toNat
  | k + 2 => acc s i n (k + 1) * 64 + (s.get! (i + (k + 1))).toNat % 64
theorem acc_succ (s : ByteArray) (i n k : Nat) (h : 0 < k) : acc s i n (k + 1) = acc s i n k * 64 + (s.get! (i + k)).toNat % 64 := by
  obtain ⟨m, rfl⟩ : ∃ m, k = m + 1 := ⟨k - 1, by omega⟩
  rfl
theorem good_n {s : ByteArray} {i n m : Nat} (hk : Kind n (s.get! i).toNat m) (hsz : i + n ≤ s.size) (hc : ∀ j, 1 ≤ j → j < n → (s.get! (i + j)).toNat / 64 = 2)
    (hmin : m ≤ acc s i n n) (hmax : acc s i n n ≤ 1114111) (hsur : ¬ (55296 ≤ acc s i n n ∧ acc s i n n ≤ 57343)) : Good s i ∧ (Utf8.decode s i).2 = n := by
  unfold Good
  rw [decode_at]
  rcases hk with ⟨rfl, hb, rfl⟩ | ⟨rfl, hb, rfl⟩ | ⟨rfl, hb, rfl⟩
  · have c1 := hc 1 (by omega) (by omega)
    have e : acc s i 2 2 = (s.get! i).toNat % 32 * 64 + (s.get! (i + 1)).toNat % 64 := rfl
    rw [e] at hmin hmax hsur
    generalize (s.get! i).toNat = b0 at *
    generalize (s.get! (i + 1)).toNat = b1 at *
    generalize (s.get! (i + 2)).toNat = b2 at *
    generalize (s.get! (i + 3)).toNat = b3 at *
    rcases decodeN_shape (s.size - i) b0 b1 b2 b3 with h | h | h | h | h
    · omega
    · rw [h.2.2.2.2]; exact ⟨fun hh => by have := hh.2; omega, rfl⟩
    · omega
    · omega
    · exfalso
      unfold decodeN at h
      rw [if_neg (by omega), if_pos ⟨hb, by omega, c1⟩, if_pos (by omega)] at h
      have h2 := congrArg Prod.snd h
      simp at h2
  · have c1 := hc 1 (by omega) (by omega)
    have c2 := hc 2 (by omega) (by omega)
    have e : acc s i 3 3 = ((s.get! i).toNat % 16 * 64 + (s.get! (i + 1)).toNat % 64) * 64 + (s.get! (i + 2)).toNat % 64 := rfl
    rw [e] at hmin hmax hsur
    generalize (s.get! i).toNat = b0 at *
    generalize (s.get! (i + 1)).toNat = b1 at *
    generalize (s.get! (i + 2)).toNat = b2 at *
    generalize (s.get! (i + 3)).toNat = b3 at *
    rcases decodeN_shape (s.size - i) b0 b1 b2 b3 with h | h | h | h | h
    · omega
    · omega
    · rw [h.2.2.2.2.2.2]; exact ⟨fun hh => by have := hh.2; omega, rfl⟩
    · omega
    · exfalso
      unfold decodeN at h
      rw [if_neg (by omega), if_neg (by omega), if_pos ⟨hb, ⟨by omega, c1⟩, by omega, c2⟩, if_pos (by omega)] at h
      have h2 := congrArg Prod.snd h
      simp at h2
  · have c1 := hc 1 (by omega) (by omega)
    have c2 := hc 2 (by omega) (by omega)
    have c3 := hc 3 (by omega) (by omega)
    have e : acc s i 4 4 = (((s.get! i).toNat % 8 * 64 + (s.get! (i + 1)).toNat % 64) * 64 + (s.get! (i + 2)).toNat % 64) * 64 + (s.get! (i + 3)).toNat % 64 := rfl
    rw [e] at hmin hmax hsur
    generalize (s.get! i).toNat = b0 at *
    generalize (s.get! (i + 1)).toNat = b1 at *
    generalize (s.get! (i + 2)).toNat = b2 at *
    generalize (s.get! (i + 3)).toNat = b3 at *
    rcases decodeN_shape (s.size - i) b0 b1 b2 b3 with h | h | h | h | h
    · omega
    · omega
    · omega
    · rw [h.2.2.2.2.2.2.2]; exact ⟨fun hh => by have := hh.2; omega, rfl⟩
    · exfalso
      unfold decodeN at h
      rw [if_neg (by omega), if_neg (by omega), if_neg (by omega), if_pos ⟨hb, ⟨by omega, c1⟩, ⟨by omega, c2⟩, by omega, c3⟩, if_pos (by omega)] at h
      have h2 := congrArg Prod.snd h
      simp at h2
end PK
end Go.Proofs.YtocahmpkgjpkdaaDoor
