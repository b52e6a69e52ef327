/- Plain: what one step of the lexer does to a whole text without NUL. -/
import Derived.Test.YtocahmpkgjpkdaaDoorPVal
import Derived.Lib.AppendStr
import Derived.Shelf.Strings.OnBuilder
namespace Go.Proofs.YtocahmpkgjpkdaaDoor
namespace PK
open Go.Lib

theorem rune_facts (s : ByteArray) (i : Nat) : (Utf8.decode s i).1 ≤ 1114111 ∧ ((Utf8.decode s i).1 < 55296 ∨ 57343 < (Utf8.decode s i).1) ∧ ((Utf8.decode s i).1 = 0 → (s.get! i).toNat = 0) := by
  rw [decode_at]
  generalize (s.get! i).toNat = b0
  generalize (s.get! (i + 1)).toNat = b1
  generalize (s.get! (i + 2)).toNat = b2
  generalize (s.get! (i + 3)).toNat = b3
  rcases decodeN_shape (s.size - i) b0 b1 b2 b3 with h | h | h | h | h
  · rw [h.2]; exact ⟨by simp; omega, by simp; omega, by simp⟩
  · rw [h.2.2.2.2]; exact ⟨by simp; omega, by simp; omega, by simp; omega⟩
  · rw [h.2.2.2.2.2.2]; exact ⟨by simp; omega, by simp; omega, by simp; omega⟩
  · rw [h.2.2.2.2.2.2.2]; exact ⟨by simp; omega, by simp; omega, by simp; omega⟩
  · rw [h]; exact ⟨by simp, by simp, by simp⟩
theorem enc_bytes (s : ByteArray) (i : Nat) (hi : i < s.size) (hg : Good s i) : encodeRune ((Utf8.decode s i).1 : Int) = (s.data.toList.drop i).take (Utf8.decode s i).2 := by
  have := encode_decode (s.data.toList.drop i) (by
    intro hh
    have hl : (s.data.toList.drop i).length = s.size - i := by simp
    rw [hh] at hl
    simp at hl; omega) (by rw [decodeL_drop]; exact hg)
  rw [decodeL_drop] at this
  exact this
/-- the row's cells behind a step -/
theorem cells_step (s : ByteArray) (i : Nat) (hi : i < s.size) (hg : Good s i) : byteCells (s.data.toList.take i) ++ runeCells ((Utf8.decode s i).1 : Int) = byteCells (s.data.toList.take (i + (Utf8.decode s i).2)) := by
  rw [← byteCells_encodeRune, enc_bytes s i hi hg, List.take_add]
  simp [byteCells]
theorem cells_len (s : ByteArray) (i : Nat) (hi : i < s.size) (hg : Good s i) (hle : i + (Utf8.decode s i).2 ≤ s.size) : (runeCells ((Utf8.decode s i).1 : Int)).length = (Utf8.decode s i).2 := by
  rw [runeCells_length, enc_bytes s i hi hg]
  simp
  have : s.data.size = s.size := rfl
  omega
theorem rune_pos (s : ByteArray) (i : Nat) (hi : i < s.size) (hn : NoNul s) : 0 < (Utf8.decode s i).1 := by
  rcases Nat.eq_zero_or_pos (Utf8.decode s i).1 with h | h
  · exfalso
    have := (rune_facts s i).2.2 h
    rw [get_at s i hi] at this
    exact hn i hi this
  · exact h
theorem it_ge (s : ByteArray) (k : Nat) : k ≤ it s k := by
  have := it_mono s 0 k
  simpa [it] using this
theorem take_all (s : ByteArray) : (⟨(s.data.toList.take s.size).toArray⟩ : ByteArray) = s := by
  have : s.data.toList.take s.size = s.data.toList := List.take_of_length_le (by simp)
  rw [this]
end PK
end Go.Proofs.YtocahmpkgjpkdaaDoor
