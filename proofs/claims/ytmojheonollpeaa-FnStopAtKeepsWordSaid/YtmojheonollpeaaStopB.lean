/- The contracts of strings.IndexRune at U+FFFD, of IndexAny, ContainsAny, StopAt, its closure, NewParser with one option, and the readers. Conditions: the word is of at most four bytes and holds no blank. -/
import Derived.Test.YtmojheonollpeaaStopA
import Derived.Lib.OthersKept
import Derived.Deep.LoopGhost
import Derived.Great.BuildSlice
import Derived.Deep.DeepCutAuto
namespace Go.Proofs.Ytmojheonollpeaa
open Go.RowKit
namespace SA

theorem bel3 {w w1 w2 : World} (h1 : Below w.heap.size w w1) (h2 : Below w1.heap.size w1 w2) : Below w.heap.size w w2 := h1.trans (h2.mono h1.size)
theorem bal3 {w W : World} (h : Below w.heap.size w W) (o : Obj) : Below w.heap.size w (W.alloc o) := h.alloc h.size o
theorem iter_below (w : World) (s : ByteArray) (i : Nat) : Below w.heap.size w (w.iter s i) := (Below.refl _ _).alloc (Nat.le_refl _) _
set_option maxHeartbeats 2000000 in
set_option maxRecDepth 100000 in
theorem rune_err (w : World) :
    Calls Try.prog 37 #[.string ⟨#[32, 9, 10, 13]⟩, .int .i32 65533] w (NoRune w) := by
  go_enter Try.func37, Try.ntmps37
  go_wp2
  go_loopg [5, 6] 4 (fun g _ _ wx => ∃ i : Nat, i + g = 4 ∧ wx = w.iter ⟨#[32, 9, 10, 13]⟩ i)
  case atStart => exact ⟨0, by omega, rfl⟩
  case round =>
    obtain ⟨i, hig, rfl⟩ := hrel
    have hcase : i = 0 ∨ i = 1 ∨ i = 2 ∨ i = 3 ∨ i = 4 := by omega
    rcases hcase with rfl | rfl | rfl | rfl | rfl
    case inr.inr.inr.inr =>
      have hnx := fun ty => run_next_end (P := Try.prog) w ⟨#[32, 9, 10, 13]⟩ 4 ty (by decide)
      go_wp2
      go_ret
      exact ⟨rfl, iter_below _ _ _⟩
    case inl =>
      obtain ⟨g, rfl⟩ : ∃ g, gk = g + 1 := ⟨gk - 1, by omega⟩
      have hnx : ∀ ty, (Instr.next (.pointer (some ⟨w.heap.size, 0, none⟩)) true ty).run Try.prog (w.iter ⟨#[32, 9, 10, 13]⟩ 0) = .ok (.tuple #[.bool true, .int .i64 0, .int .i32 32]) (w.iter ⟨#[32, 9, 10, 13]⟩ 1) := fun ty => run_next_ascii (P := Try.prog) w ⟨#[32, 9, 10, 13]⟩ 0 ty (by decide) (by decide)
      go_wp2
      go_roundg g
      case rel => exact ⟨1, by omega, rfl⟩
      case measure => omega
    case inr.inl =>
      obtain ⟨g, rfl⟩ : ∃ g, gk = g + 1 := ⟨gk - 1, by omega⟩
      have hnx : ∀ ty, (Instr.next (.pointer (some ⟨w.heap.size, 0, none⟩)) true ty).run Try.prog (w.iter ⟨#[32, 9, 10, 13]⟩ 1) = .ok (.tuple #[.bool true, .int .i64 1, .int .i32 9]) (w.iter ⟨#[32, 9, 10, 13]⟩ 2) := fun ty => run_next_ascii (P := Try.prog) w ⟨#[32, 9, 10, 13]⟩ 1 ty (by decide) (by decide)
      go_wp2
      go_roundg g
      case rel => exact ⟨2, by omega, rfl⟩
      case measure => omega
    case inr.inr.inl =>
      obtain ⟨g, rfl⟩ : ∃ g, gk = g + 1 := ⟨gk - 1, by omega⟩
      have hnx : ∀ ty, (Instr.next (.pointer (some ⟨w.heap.size, 0, none⟩)) true ty).run Try.prog (w.iter ⟨#[32, 9, 10, 13]⟩ 2) = .ok (.tuple #[.bool true, .int .i64 2, .int .i32 10]) (w.iter ⟨#[32, 9, 10, 13]⟩ 3) := fun ty => run_next_ascii (P := Try.prog) w ⟨#[32, 9, 10, 13]⟩ 2 ty (by decide) (by decide)
      go_wp2
      go_roundg g
      case rel => exact ⟨3, by omega, rfl⟩
      case measure => omega
    case inr.inr.inr.inl =>
      obtain ⟨g, rfl⟩ : ∃ g, gk = g + 1 := ⟨gk - 1, by omega⟩
      have hnx : ∀ ty, (Instr.next (.pointer (some ⟨w.heap.size, 0, none⟩)) true ty).run Try.prog (w.iter ⟨#[32, 9, 10, 13]⟩ 3) = .ok (.tuple #[.bool true, .int .i64 3, .int .i32 13]) (w.iter ⟨#[32, 9, 10, 13]⟩ 4) := fun ty => run_next_ascii (P := Try.prog) w ⟨#[32, 9, 10, 13]⟩ 3 ty (by decide) (by decide)
      go_wp2
      go_roundg g
      case rel => exact ⟨4, by omega, rfl⟩
      case measure => omega
/-- the word holds no blank -/
def NoBlank (s : ByteArray) : Prop := ∀ i (h : i < s.size), ¬ Blank (s[i]'h).toNat
theorem decode_valid (s : ByteArray) (i : Nat) : ((Utf8.decode s i).1 < 55296) ∨ (57343 < (Utf8.decode s i).1 ∧ (Utf8.decode s i).1 ≤ 1114111) := by
  have hb : ∀ k, (s.get! (i + k)).toNat < 256 := fun k => UInt8.toNat_lt _
  have h0 := hb 0; have h1 := hb 1; have h2 := hb 2; have h3 := hb 3
  have hv : ∀ c : Nat, Utf8.valid (c : Int) = true → c < 55296 ∨ (57343 < c ∧ c ≤ 1114111) := by
    intro c h
    rw [validRune_eq] at h
    have := of_decide_eq_true h
    omega
  simp only [Utf8.decode]
  repeat' split
  all_goals simp_all [Utf8.runeError]
  all_goals first
    | omega
    | (have := hv _ (by assumption); omega)
    | skip
theorem decode_in (s : ByteArray) (i : Nat) (h : i < s.size) : 1 ≤ (Utf8.decode s i).2 ∧ i + (Utf8.decode s i).2 ≤ s.size := by
  simp only [Utf8.decode]
  repeat' split
  all_goals simp_all
  all_goals omega
/-- strings.IndexRune at the four blanks and a rune of a word that holds none of them -/
theorem rune_any (s : ByteArray) (i : Nat) (h : i < s.size) (hs : NoBlank s) (w : World) :
    Calls Try.prog 37 #[.string ⟨#[32, 9, 10, 13]⟩, .int .i32 ((Utf8.decode s i).1 : Int)] w (NoRune w) := by
  by_cases ha : (s[i]'h).toNat < 128
  · rw [decode_ascii s i h ha]
    exact rune_ascii _ _ (by omega) (by omega) (by simpa using hs i h)
  · have hd := decode_high s i h (by omega)
    have hv := decode_valid s i
    by_cases he : (Utf8.decode s i).1 = 65533
    · rw [he]
      exact rune_err w
    · exact rune_high _ w (by omega) (by omega)
set_option maxHeartbeats 2000000 in
set_option maxRecDepth 100000 in
theorem idxany (s : ByteArray) (w : World) (h4 : s.size ≤ 4) (hs : NoBlank s) :
    Calls Try.prog 36 #[.string s, .string ⟨#[32, 9, 10, 13]⟩] w (NoRune w) := by
  have HS := Lib.hid hs
  clear hs
  have h8 : decide ((8 : Int) < (s.size : Int)) = false := decide_eq_false (by omega)
  go_enter Try.func36, Try.ntmps36
  go_wp2_with (go_at_call 38; go_in)
  go_loopg [9, 10] s.size (fun g _ _ wx => ∃ i : Nat, i ≤ s.size ∧ s.size ≤ i + g ∧ wx.heap[w.heap.size]? = some (.stringIter s i) ∧ Below w.heap.size w wx)
  case atStart => exact ⟨0, by omega, by omega, World.iter_heap _ _ _, iter_below _ _ _⟩
  case round =>
    obtain ⟨i, hi, hig, hit, hbe⟩ := hrel
    have HI := Lib.hid hit
    have HB := Lib.hid hbe
    clear hit hbe
    by_cases hlt : i < s.size
    · obtain ⟨g, rfl⟩ : ∃ g, gk = g + 1 := ⟨gk - 1, by omega⟩
      have hnx := fun ty => Lib.run_next_any_at (P := Try.prog) wr w.heap.size s i ty HI.out hlt
      have HR := Lib.hid (rune_any s i hlt HS.out)
      have HJ := Lib.hid (Lib.iterAt_heap wr w.heap.size s i (i + (Utf8.decode s i).2) HI.out)
      have HK := Lib.hid (Lib.below_iterAt HB.out (Nat.le_refl w.heap.size) s (i + (Utf8.decode s i).2))
      have hle := decode_in s i hlt
      generalize (Utf8.decode s i).1 = dc at *
      generalize (Utf8.decode s i).2 = dn at *
      go_wp2_with (go_at_call 37; refine (HR.out _).mono ?_; rintro e w2 ⟨rfl, hb2⟩; have HB2 := Lib.hid hb2; clear hb2)
      go_roundg g
      case rel =>
        refine ⟨i + dn, by omega, by omega, ?_, ?_⟩
        · exact (HB2.out.block _ (by have := (Array.getElem?_eq_some_iff.1 HJ.out).1; omega)).trans HJ.out
        · exact HK.out.trans (HB2.out.mono HK.out.size)
      case measure => omega
    · have hnx := fun ty => Lib.run_next_end_at (P := Try.prog) wr w.heap.size s i ty HI.out hlt
      go_wp2
      go_ret
      exact ⟨rfl, HB.out⟩
set_option maxHeartbeats 1000000 in
theorem contains_any (s : ByteArray) (w : World) (h4 : s.size ≤ 4) (hs : NoBlank s) :
    Calls Try.prog 33 #[.string s, .string ⟨#[32, 9, 10, 13]⟩] w fun e w' => e = .returned (.bool false) ∧ Below w.heap.size w w' := by
  go_enter Try.func33, Try.ntmps33
  go_wp2_with (go_at_call 36; refine (idxany s _ h4 hs).mono ?_; rintro e w2 ⟨rfl, hb2⟩)
  go_ret
  exact ⟨rfl, hb2⟩
/-- what StopAt hands back: the closure over a box that holds the word -/
def StopV (s : ByteArray) (w : World) (e : Ending) (w' : World) : Prop := ∃ B, e = .returned (.func (.func 34) #[] #[.pointer (some ⟨B, 0, none⟩)]) ∧ w.heap.size ≤ B ∧ w'.cell? ⟨B, 0, none⟩ = some (.string s) ∧ Below w.heap.size w w'
set_option maxHeartbeats 1000000 in
theorem stopAt_any (s : ByteArray) (w : World) (h4 : s.size ≤ 4) (hs : NoBlank s) :
    Calls Try.prog 30 #[.string s] w (StopV s w) := by
  have HS := Lib.hid hs
  clear hs
  have h5 : ¬ (4 : Int) < (s.size : Int) := by omega
  go_enter Try.func30, Try.ntmps30
  go_wp2_with (go_at_call 33; refine (contains_any s _ h4 HS.out).mono ?_; rintro e w2 ⟨rfl, hb2⟩; have hc2 : w2.cell? ⟨w.heap.size, 0, none⟩ = some (.string s) := cell_later hb2 (by go_simp))
  go_ret
  exact ⟨w.heap.size, rfl, Nat.le_refl _, hc2, ((Below.refl _ _).alloc (Nat.le_refl _) _).trans (hb2.mono (by simp))⟩
end SA
end Go.Proofs.Ytmojheonollpeaa
