/- The contracts of strings.IndexByte, IndexRune (at the four blanks and a rune that is none of them), IndexAny, ContainsAny at a word of at most four bytes that holds none of the four blanks. Conditions: the word is so. -/
import Derived.Test.YtmojheonollpeaaSlices
import Derived.WalkKit
import Derived.WalkSpells
import Derived.WalkLawsBesides
import Derived.Lib.Hide
import Derived.Outline
import Derived.Below
import Derived.Lib.Bytealg
import Derived.Lib.Strings
import Derived.Laws.Externs
import Derived.Laws.Runes
import Derived.Laws.RangeAny
import Derived.Laws.IdiomStrings
import Derived.Deep.QuietTactic
import Derived.BigQuiet
import Derived.WalkMore
namespace Go.Proofs.Ytmojheonollpeaa
open Go.RowKit
namespace SA

set_option maxHeartbeats 1000000 in
set_option maxRecDepth 100000 in
theorem idx_any (s : ByteArray) (c : Int) (w : World) :
    Calls Try.prog 45 #[.string s, .int .u8 c] w fun e w' => e = .returned (.int .i64 (firstIdx s c.toNat.toUInt8)) ∧ w = w' := by
  go_enter Try.func45, Try.ntmps45
  go_wp2
  rw [run_callFunc_extern Try.func46 (by kernel_rfl) (by kernel_rfl) (by kernel_rfl) (e := Extern.BytealgIndexByte.indexByte) (by kernel_rfl), run_indexByte_string]
  simp only [Result.andThen]
  rw [Oper.upon_value]
  go_wp2
  go_ret
  exact ⟨rfl, rfl⟩
set_option maxHeartbeats 1000000 in
theorem idxb_any (s : ByteArray) (c : Int) (w : World) :
    Calls Try.prog 41 #[.string s, .int .u8 c] w fun e w' => e = .returned (.int .i64 (firstIdx s c.toNat.toUInt8)) ∧ w = w' := by
  go_enter Try.func41, Try.ntmps41
  go_wp2_with (go_at_call 45; refine (idx_any _ _ _).mono ?_; rintro e w' ⟨rfl, rfl⟩)
  go_ret
  exact ⟨rfl, rfl⟩

/-- the four blanks -/
def ws : ByteArray := ⟨#[32, 9, 10, 13]⟩
def Blank (n : Nat) : Prop := n = 32 ∨ n = 9 ∨ n = 10 ∨ n = 13
theorem ws_bytes : ∀ b ∈ ws.data.toList, Blank b.toNat := by
  intro b hb
  simp [ws] at hb
  unfold Blank
  rcases hb with rfl | rfl | rfl | rfl <;> decide
theorem first_ws (c : Int) (h0 : 0 ≤ c) (h1 : c < 256) (hb : ¬ Blank c.toNat) : firstIdx ⟨#[32, 9, 10, 13]⟩ c.toNat.toUInt8 = -1 := by
  refine firstIdx_none ws _ fun b hm e => ?_
  have := ws_bytes b hm
  rw [e] at this
  have e2 : c.toNat.toUInt8.toNat = c.toNat := by simp; omega
  rw [e2] at this
  exact hb this

set_option maxHeartbeats 1000000 in
theorem valid_yes (r : Int) (w : World) (h : (0 ≤ r ∧ r < 55296) ∨ (57343 < r ∧ r ≤ 1114111)) :
    Calls Try.prog 42 #[.int .i32 r] w fun e w' => e = .returned (.bool true) ∧ w = w' := by
  rcases h with ⟨h0, h1⟩ | ⟨h0, h1⟩
  · go_enter Try.func42, Try.ntmps42
    go_wp2
    go_ret
    exact ⟨rfl, rfl⟩
  · have h2 : ¬ r < 55296 := by omega
    have h3 : 0 ≤ r := by omega
    go_enter Try.func42, Try.ntmps42
    go_wp2
    go_ret
    exact ⟨rfl, rfl⟩
def NoRune (w : World) (e : Ending) (w' : World) : Prop := e = .returned (.int .i64 (-1)) ∧ Below w.heap.size w w'
set_option maxHeartbeats 1000000 in
set_option maxRecDepth 100000 in
theorem rune_ascii (c : Int) (w : World) (h0 : 0 ≤ c) (h1 : c < 128) (hb : ¬ Blank c.toNat) :
    Calls Try.prog 37 #[.string ⟨#[32, 9, 10, 13]⟩, .int .i32 c] w (NoRune w) := by
  have HF := Lib.hid (first_ws c h0 (by omega) hb)
  clear hb
  go_enter Try.func37, Try.ntmps37
  go_wp2_with (go_at_call 41; refine (idxb_any _ _ _).mono ?_; rintro e w' ⟨rfl, rfl⟩)
  go_ret
  exact ⟨by rw [HF.out]; rfl, Below.refl _ _⟩
set_option maxHeartbeats 1000000 in
theorem idxb_high (a e : Nat) (x : UInt8) (hx : 128 ≤ x.toNat) (w : World) :
    Calls Try.prog 41 #[.string ((⟨#[32, 9, 10, 13]⟩ : ByteArray).extract a e), .int .u8 (x.toNat : Int)] w fun e w' => e = .returned (.int .i64 (-1)) ∧ w = w' := by
  refine (idxb_any _ _ w).mono ?_
  rintro e w' ⟨rfl, rfl⟩
  have hasc : ∀ b ∈ (⟨#[32, 9, 10, 13]⟩ : ByteArray).data.toList, b.toNat < 128 := by
    intro b hb; have := ws_bytes b hb; unfold Blank at this; omega
  have hback : ((x.toNat : Int)).toNat.toUInt8 = x := by simp
  rw [hback, firstIdx_ascii _ a _ x hasc hx]
  exact ⟨rfl, rfl⟩
set_option maxHeartbeats 1000000 in
theorem idxb_nil (c : Int) (w : World) :
    Calls Try.prog 41 #[.string ByteArray.empty, .int .u8 c] w fun e w' => e = .returned (.int .i64 (-1)) ∧ w = w' := by
  refine (idxb_any _ _ w).mono ?_
  rintro e w' ⟨rfl, rfl⟩
  rw [firstIdx_none _ _ (fun b hb => by simp at hb)]
  exact ⟨rfl, rfl⟩
theorem quiet_add_left {P : Program} {f : FuncId} {args : Array Value} {w : World} {a n : Nat} {v : Value}
    (h : Calls P f args (w.drewN (a + n)) fun e w' => e = .returned v ∧ w.drewN (a + n) = w') :
    Calls P f args (w.drewN (a + n)) fun e w'' => e = .returned v ∧ ∃ m, w'' = w.drewN (a + m) :=
  h.mono fun _ _ ⟨he, hm⟩ => ⟨he, n, hm.symm⟩
/-- the last byte of a rune's bytes is no ASCII byte -/
theorem enc_cases (c : Int) (hv : (128 ≤ c ∧ c < 55296) ∨ (57343 < c ∧ c ≤ 1114111)) :
    (∃ x0 x1 : UInt8, Utf8.encode c = ⟨#[x0, x1]⟩ ∧ 128 ≤ x1.toNat) ∨ (∃ x0 x1 x2 : UInt8, Utf8.encode c = ⟨#[x0, x1, x2]⟩ ∧ 128 ≤ x2.toNat) ∨ (∃ x0 x1 x2 x3 : UInt8, Utf8.encode c = ⟨#[x0, x1, x2, x3]⟩ ∧ 128 ≤ x3.toNat) := by
  have hval : Utf8.valid c = true := by
    rw [validRune_eq]; unfold validRune; exact decide_eq_true (by omega)
  have hc : ¬ c.toNat < 128 := by omega
  unfold Utf8.encode
  simp only [hval, if_true, hc, if_false]
  split
  · exact .inl ⟨_, _, rfl, by simp; omega⟩
  · split
    · exact .inr (.inl ⟨_, _, _, rfl, by simp; omega⟩)
    · exact .inr (.inr ⟨_, _, _, _, rfl, by simp; omega⟩)
set_option maxHeartbeats 8000000 in
set_option maxRecDepth 100000 in
theorem rune_high (c : Int) (w : World) (hv : (128 ≤ c ∧ c < 55296) ∨ (57343 < c ∧ c ≤ 1114111)) (hne : c ≠ 65533) :
    Calls Try.prog 37 #[.string ⟨#[32, 9, 10, 13]⟩, .int .i32 c] w (NoRune w) := by
  have h0 : 0 ≤ c := by omega
  have h1 : ¬ c < 128 := by omega
  have h2 : (c == 65533) = false := by simpa using hne
  have hva := valid_yes c w (by omega)
  have hasc : ∀ b ∈ (⟨#[32, 9, 10, 13]⟩ : ByteArray).data.toList, b.toNat < 128 := by
    intro b hb; have := ws_bytes b hb; unfold Blank at this; omega
  have HF : Hid (∀ (x : UInt8) (a e : Nat), 128 ≤ x.toNat → firstIdx ((⟨#[32, 9, 10, 13]⟩ : ByteArray).extract a e) x = -1) := Lib.hid fun x a e hx => firstIdx_ascii _ a e x hasc hx
  have HV := Lib.hid hva
  clear hasc hva hne
  rcases enc_cases c hv with ⟨x0, x1, he, hx⟩ | ⟨x0, x1, x2, he, hx⟩ | ⟨x0, x1, x2, x3, he, hx⟩
  · clear hv
    have hn : ((((⟨#[32, 9, 10, 13]⟩ : ByteArray)[1]'(by decide)).toNat : Int) != (((⟨#[x0, x1]⟩ : ByteArray)[1]'(by show 1 < 2; omega)).toNat : Int)) = true := by
      show ((9 : Int) != (x1.toNat : Int)) = true
      simp; omega
    go_enter Try.func37, Try.ntmps37
    go_wp2_with (go_at_call 42; refine HV.out.mono ?_; rintro e w' ⟨rfl, rfl⟩)
    go_step3
    go_wp2
    go_loop [9] (fun vi => vi = .int .i64 1) (fun _ => 0)
    case atStart => rfl
    case round =>
      obtain rfl := hrel
      go_wp2
      go_step3
      go_wp2
      go_quiet (fail)
      go_wp2
      go_quiet ((go_at_call 41; exact quiet_add_left (idxb_high _ _ _ hx _)))
      go_wp2
      try rw [Exit.noGoto_ret]
      go_ret
      exact ⟨rfl, below_drewN (Below.refl _ _) _⟩
  · clear hv
    have hn : ((((⟨#[32, 9, 10, 13]⟩ : ByteArray)[2]'(by decide)).toNat : Int) != (((⟨#[x0, x1, x2]⟩ : ByteArray)[2]'(by show 2 < 3; omega)).toNat : Int)) = true := by
      show ((10 : Int) != (x2.toNat : Int)) = true
      simp; omega
    go_enter Try.func37, Try.ntmps37
    go_wp2_with (go_at_call 42; refine HV.out.mono ?_; rintro e w' ⟨rfl, rfl⟩)
    go_step3
    go_wp2
    go_loop [9] (fun vi => vi = .int .i64 2) (fun _ => 0)
    case atStart => rfl
    case round =>
      obtain rfl := hrel
      go_wp2
      go_step3
      go_wp2
      go_quiet (fail)
      go_wp2
      go_quiet ((go_at_call 41; exact quiet_add_left (idxb_high _ _ _ hx _)))
      go_wp2
      try rw [Exit.noGoto_ret]
      go_ret
      exact ⟨rfl, below_drewN (Below.refl _ _) _⟩
  · clear hv
    have hn : ((((⟨#[32, 9, 10, 13]⟩ : ByteArray)[3]'(by decide)).toNat : Int) != (((⟨#[x0, x1, x2, x3]⟩ : ByteArray)[3]'(by show 3 < 4; omega)).toNat : Int)) = true := by
      show ((13 : Int) != (x3.toNat : Int)) = true
      simp; omega
    go_enter Try.func37, Try.ntmps37
    go_wp2_with (go_at_call 42; refine HV.out.mono ?_; rintro e w' ⟨rfl, rfl⟩)
    go_step3
    go_wp2
    go_loop [9] (fun vi => vi = .int .i64 3) (fun _ => 0)
    case atStart => rfl
    case round =>
      obtain rfl := hrel
      go_wp2
      go_step3
      go_wp2
      go_quiet (fail)
      go_wp2
      go_quiet ((go_at_call 41; exact quiet_add_left (idxb_nil _ _)))
      go_wp2
      try rw [Exit.noGoto_ret]
      go_ret
      exact ⟨rfl, below_drewN (Below.refl _ _) _⟩
end SA
end Go.Proofs.Ytmojheonollpeaa
