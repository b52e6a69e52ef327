/- Plain words of the join of n010_163: the separator, the join of the first k texts. No program in sight. -/
import Derived.Lib.Join
import Derived.Lib.AppendStr
import Derived.Shelf.Strings.OnBuilder
import Derived.Shelf.Unicode.DecodeSlow
import Derived.Shelf.Unicode.DecodeLastEight
namespace Go.Proofs.YtdiimpggoejphaaDoor
namespace IJ

/-- the first character of s, all its bytes -/
def sepOf (s : ByteArray) : ByteArray := if s.size = 0 then ⟨#[]⟩ else s.extract 0 (Lib.decodeGo s).2
theorem sepOf_pos (s : ByteArray) (h : 0 < s.size) : sepOf s = s.extract 0 (Utf8.decode s 0).2 := by
  have : s.size ≠ 0 := by omega
  simp [sepOf, Lib.decodeGo, this]
theorem sepOf_zero (s : ByteArray) (h : s.size = 0) : sepOf s = ⟨#[]⟩ := by simp [sepOf, h]
theorem size_le (s : ByteArray) (h : 0 < s.size) : (Utf8.decode s 0).2 ≤ s.size := by
  have := Lib.decodeGo_le_size s
  have h0 : s.size ≠ 0 := by omega
  simpa [Lib.decodeGo, h0] using this
theorem size_le4 (s : ByteArray) (h : 0 < s.size) : (Utf8.decode s 0).2 ≤ 4 := by
  have := Lib.decodeGo_le4 s
  have h0 : s.size ≠ 0 := by omega
  simpa [Lib.decodeGo, h0] using this
theorem sepOf_le4 (s : ByteArray) : (sepOf s).size ≤ 4 := by
  by_cases h : s.size = 0
  · rw [sepOf_zero s h]; show (#[] : Array UInt8).size ≤ 4; simp
  · rw [sepOf_pos s (by omega)]
    have := size_le4 s (by omega)
    simp only [ByteArray.size_extract]
    omega
/-- the first k texts, sep between them -/
def jn (f : Nat → ByteArray) (sep : List UInt8) : Nat → List UInt8
  | 0 => []
  | 1 => (f 0).data.toList
  | n + 2 => jn f sep (n + 1) ++ sep ++ (f (n + 1)).data.toList
theorem jn_succ (f : Nat → ByteArray) (sep : List UInt8) (k : Nat) (h : 0 < k) : jn f sep (k + 1) = jn f sep k ++ sep ++ (f k).data.toList := by
  obtain ⟨m, rfl⟩ : ∃ m, k = m + 1 := ⟨k - 1, by omega⟩
  rfl
theorem jn_one (f : Nat → ByteArray) (sep : List UInt8) : jn f sep 1 = (f 0).data.toList := rfl
/-- the texts' lengths in all -/
def sumL (f : Nat → ByteArray) : Nat → Nat
  | 0 => 0
  | n + 1 => sumL f n + (f n).size
theorem jn_len (f : Nat → ByteArray) (sep : List UInt8) (hs : sep.length ≤ 4) : ∀ k, (jn f sep k).length ≤ 4 * k + sumL f k
  | 0 => by simp [jn]
  | 1 => by
    have e : (f 0).data.toList.length = (f 0).size := by simp
    simp only [jn, sumL, e]; omega
  | k + 2 => by
    have := jn_len f sep hs (k + 1)
    have e : (f (k + 1)).data.toList.length = (f (k + 1)).size := by simp
    simp only [jn, List.length_append, e]
    simp only [sumL] at this ⊢
    omega
theorem sumL_mono (f : Nat → ByteArray) : ∀ n k, sumL f k ≤ sumL f (k + n)
  | 0, k => by simp
  | n + 1, k => by have := sumL_mono f n k; rw [← Nat.add_assoc]; simp only [sumL]; omega
theorem sumL_le (f : Nat → ByteArray) (k n : Nat) (h : k ≤ n) : sumL f k ≤ sumL f n := by
  obtain ⟨m, rfl⟩ := Nat.le.dest h
  exact sumL_mono f m k
/-- the texts as a list -/
def xsOf (f : Nat → ByteArray) (n : Nat) : List ByteArray := (List.range n).map f
theorem xsOf_length (f : Nat → ByteArray) (n : Nat) : (xsOf f n).length = n := by simp [xsOf]
theorem xsOf_at (f : Nat → ByteArray) (n j : Nat) (x : ByteArray) (h : (xsOf f n)[j]? = some x) : j < n ∧ x = f j := by
  have hj : j < n := by
    have := (List.getElem?_eq_some_iff.mp h).1
    simpa [xsOf] using this
  refine ⟨hj, ?_⟩
  simp [xsOf, hj] at h
  exact h.symm
theorem joinTail_jn (f : Nat → ByteArray) (sep : List UInt8) : ∀ n, (f 0).data.toList ++ Lib.joinTail sep ((List.range n).map (fun i => (f (i + 1)).data.toList)) = jn f sep (n + 1)
  | 0 => by simp [Lib.joinTail, jn]
  | n + 1 => by
    have ih := joinTail_jn f sep n
    rw [jn_succ f sep (n + 1) (by omega), ← ih, List.range_succ]
    simp [Lib.joinTail]
theorem join_jn (f : Nat → ByteArray) (sep : List UInt8) (n : Nat) : Lib.join ((xsOf f n).map (·.data.toList)) sep = jn f sep n := by
  cases n with
  | zero => simp [xsOf, Lib.join_nil, jn]
  | succ m =>
    rw [← joinTail_jn, xsOf, List.range_succ_eq_map]
    simp only [List.map_cons, List.map_map]
    rw [Lib.join_cons]
    rfl
theorem byteCells_str (s : ByteArray) : Lib.strCells s = Lib.byteCells s.data.toList := rfl
theorem byteCells_app (a b : List UInt8) : Lib.byteCells (a ++ b) = Lib.byteCells a ++ Lib.byteCells b := by simp [Lib.byteCells]
end IJ
end Go.Proofs.YtdiimpggoejphaaDoor
