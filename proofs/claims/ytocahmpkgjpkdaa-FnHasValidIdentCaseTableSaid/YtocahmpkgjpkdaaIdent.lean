/- The contract of hasValidIdent over a parser of ZZNewState's make, and of the law's small tests (zzIsLitTok, zzLangOK, LangVariant.in). Conditions: the ones that each contract names. -/
import Derived.Test.YtocahmpkgjpkdaaName
namespace Go.Proofs.Ytocahmpkgjpkdaa
open Go.RowKit

/-- is the string a name? (kept shut) -/
def nameOf (s : ByteArray) : Bool := nameB s.data.toList
theorem validN (s : ByteArray) (w : World) (hs : s.size ≤ 1048576) :
    Calls Try.prog 18 #[.string s] w fun e w' => e = .returned (.bool (nameOf s)) ∧ Below w.heap.size w w' := valid_any s w hs
theorem modelN (s : ByteArray) (w : World) (hs : s.size ≤ 1048576) :
    Calls Try.prog 19 #[.string s] w fun e w' => e = .returned (.bool (nameOf s)) ∧ w = w' := model_any s w hs

def litB (t : Int) : Bool := t == 3 || t == 4 || t == 5
def langB (l : Int) : Bool := l == 1 || l == 2 || l == 4 || l == 8 || l == 16

set_option maxHeartbeats 400000 in
theorem isLit_any (t : Int) (w : World) :
    Calls Try.prog 47 #[.int .u32 t] w fun e w' => e = .returned (.bool (litB t)) ∧ w = w' := by
  rcases Bool.eq_false_or_eq_true (t == 3) with h3 | h3 <;> rcases Bool.eq_false_or_eq_true (t == 4) with h4 | h4 <;> rcases Bool.eq_false_or_eq_true (t == 5) with h5 | h5
  all_goals
    go_enter Try.func47, Try.ntmps47
    go_wp2
    go_ret
    exact ⟨ret_bool (by rw [litB, h3, h4, h5]; rfl), rfl⟩
set_option maxHeartbeats 400000 in
theorem isLitTok_any (t : Int) (w : World) :
    Calls Try.prog 23 #[.int .u32 t] w fun e w' => e = .returned (.bool (litB t)) ∧ w = w' := by
  rcases Bool.eq_false_or_eq_true (t == 3) with h3 | h3 <;> rcases Bool.eq_false_or_eq_true (t == 4) with h4 | h4 <;> rcases Bool.eq_false_or_eq_true (t == 5) with h5 | h5
  all_goals
    go_enter Try.func23, Try.ntmps23
    go_wp2
    go_ret
    exact ⟨ret_bool (by rw [litB, h3, h4, h5]; rfl), rfl⟩
set_option maxHeartbeats 400000 in
theorem langOK_any (l : Int) (w : World) :
    Calls Try.prog 21 #[.int .i64 l] w fun e w' => e = .returned (.bool (langB l)) ∧ w = w' := by
  rcases Bool.eq_false_or_eq_true (l == 1) with h1 | h1 <;> rcases Bool.eq_false_or_eq_true (l == 2) with h2 | h2 <;> rcases Bool.eq_false_or_eq_true (l == 4) with h4 | h4 <;> rcases Bool.eq_false_or_eq_true (l == 8) with h8 | h8 <;> rcases Bool.eq_false_or_eq_true (l == 16) with h6 | h6
  all_goals
    go_enter Try.func21, Try.ntmps21
    go_wp2
    go_ret
    exact ⟨ret_bool (by rw [langB, h1, h2, h4, h8, h6]; rfl), rfl⟩
theorem lang_and (l : Int) (h : langB l = true) : (bits .and .i64 l 29 == l) = (l != 2) := by
  simp only [langB, Bool.or_eq_true, beq_iff_eq] at h
  rcases h with (((rfl | rfl) | rfl) | rfl) | rfl <;> decide
set_option maxHeartbeats 400000 in
theorem in_any (l : Int) (w : World) (h : langB l = true) :
    Calls Try.prog 48 #[.int .i64 l, .int .i64 29] w fun e w' => e = .returned (.bool (l != 2)) ∧ w = w' := by
  have hl := lang_and l h
  clear h
  go_enter Try.func48, Try.ntmps48
  go_wp2
  go_ret
  exact ⟨rfl, rfl⟩

/-- the parser's cells that are read, in a world -/
def PsAt (w : World) (b : Nat) (t e r l : Int) (s : ByteArray) : Prop :=
  w.cell? ⟨b, 10, none⟩ = some (.int .u32 t) ∧ w.cell? ⟨b, 11, none⟩ = some (.string s) ∧ w.cell? ⟨b, 18, none⟩ = some (.int .i64 e) ∧ w.cell? ⟨b, 3, none⟩ = some (.int .i32 r) ∧ w.cell? ⟨b, 20, none⟩ = some (.int .i64 l)
theorem PsAt.below {w w' : World} {b : Nat} {t e r l : Int} {s : ByteArray} (h : PsAt w b t e r l s) (hb : Below w.heap.size w w') (hz : b < w.heap.size) : PsAt w' b t e r l s := by
  obtain ⟨h1, h2, h3, h4, h5⟩ := h
  exact ⟨by rw [hb.cell (p := ⟨b, 10, none⟩) hz]; exact h1, by rw [hb.cell (p := ⟨b, 11, none⟩) hz]; exact h2, by rw [hb.cell (p := ⟨b, 18, none⟩) hz]; exact h3, by rw [hb.cell (p := ⟨b, 3, none⟩) hz]; exact h4, by rw [hb.cell (p := ⟨b, 20, none⟩) hz]; exact h5⟩

theorem extract_le (s : ByteArray) (n : Nat) (h : s.size ≤ 1048576) : (s.extract 0 n).size ≤ 1048576 := by
  rw [ByteArray.size_extract]; omega

set_option maxHeartbeats 1000000 in
/-- no literal token -/
theorem ident_no (b : Nat) (t e r l : Int) (s : ByteArray) (w : World) (hp : PsAt w b t e r l s) (ht : litB t = false) :
    Calls Try.prog 45 #[.pointer (some ⟨b, 0, none⟩)] w fun x w' => x = .returned (.bool false) ∧ Below w.heap.size w w' := by
  obtain ⟨h1, h2, h3, h4, h5⟩ := hp
  go_enter Try.func45, Try.ntmps45
  go_wp2_with (go_at_call 47; refine (isLit_any _ _).mono ?_; rintro e w' ⟨rfl, rfl⟩)
  go_ret
  exact ⟨rfl, Below.refl _ _⟩
set_option maxHeartbeats 1000000 in
/-- no equals sign -/
theorem ident_plain (b : Nat) (t e r l : Int) (s : ByteArray) (w : World) (hz : b < w.heap.size) (hp : PsAt w b t e r l s) (ht : litB t = true) (he : e ≤ 0) (hs : s.size ≤ 1048576) :
    Calls Try.prog 45 #[.pointer (some ⟨b, 0, none⟩)] w fun x w' => x = .returned (.bool (nameOf s && r == 91)) ∧ Below w.heap.size w w' := by
  have HP := Lib.hid hp
  obtain ⟨h1, h2, h3, h4, h5⟩ := hp
  rcases Bool.eq_false_or_eq_true (nameOf s) with hn | hn
  all_goals
    go_enter Try.func45, Try.ntmps45
    go_wp2_with (first | (go_at_call 47; refine (isLit_any _ _).mono ?_; rintro e w' ⟨rfl, rfl⟩) | (go_at_call 18; refine (validN _ _ hs).mono ?_; rintro e w1 ⟨rfl, hb1⟩; obtain ⟨g1, g2, g3, g4, g5⟩ := HP.out.below hb1 hz))
    go_ret
    exact ⟨ret_bool (by rw [hn]; simp), hb1⟩

theorem or_f {x y : Bool} (h : x = false) : y = (x || y) := by rw [h, Bool.false_or]
theorem or_t {x y : Bool} (h : x = true) : true = (x || y) := by rw [h, Bool.true_or]
/-- where the name ends: a plus sign before the equals sign is dropped outside POSIX -/
def cutN (E : Nat) (p q : Bool) : Nat := if p && q then E - 1 else E
set_option maxHeartbeats 2000000 in
/-- an equals sign at E -/
theorem ident_eq (b : Nat) (t r l : Int) (E : Nat) (s : ByteArray) (p q : Bool) (w : World) (hz : b < w.heap.size) (hp : PsAt w b t E r l s) (ht : litB t = true) (hE : 1 ≤ E) (hE2 : E < s.size) (hs : s.size ≤ 1048576) (hl : langB l = true)
    (hpl : ((s[E - 1].toNat : Int) == 43) = p) (hq : (l != 2) = q) :
    Calls Try.prog 45 #[.pointer (some ⟨b, 0, none⟩)] w fun x w' => x = .returned (.bool (nameOf (s.extract 0 (cutN E p q)) || r == 91)) ∧ Below w.heap.size w w' := by
  have HP := Lib.hid hp
  obtain ⟨h1, h2, h3, h4, h5⟩ := hp
  have e0 : (0 : Int) < (E : Int) := by omega
  have e1 : (E : Int) < (s.size : Int) := by omega
  cases p <;> cases q
  all_goals
    first | rw [show cutN E _ _ = E from rfl] | rw [show cutN E _ _ = E - 1 from rfl]
    rcases Bool.eq_false_or_eq_true (nameOf (s.extract 0 E)) with hn | hn <;> rcases Bool.eq_false_or_eq_true (nameOf (s.extract 0 (E - 1))) with hn2 | hn2
  all_goals
    go_enter Try.func45, Try.ntmps45
    go_wp2_with (first | (go_at_call 47; refine (isLit_any _ _).mono ?_; rintro e w' ⟨rfl, rfl⟩) | (go_at_call 48; refine (in_any _ _ hl).mono ?_; rintro e w' ⟨rfl, rfl⟩) | (go_at_call 18; refine (validN _ _ (extract_le _ _ hs)).mono ?_; rintro e w1 ⟨rfl, hb1⟩; obtain ⟨g1, g2, g3, g4, g5⟩ := HP.out.below hb1 hz))
    go_ret
    exact ⟨ret_bool (by first | (with_reducible exact or_f hn) | (with_reducible exact or_t hn) | (with_reducible exact or_f hn2) | (with_reducible exact or_t hn2)), hb1⟩
end Go.Proofs.Ytocahmpkgjpkdaa
