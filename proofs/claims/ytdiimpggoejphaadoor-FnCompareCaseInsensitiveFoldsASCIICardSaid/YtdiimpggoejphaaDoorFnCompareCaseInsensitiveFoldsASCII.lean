/- Proved here: for every two ASCII strings listEnviron.compare with case folding answers by the byte order of the two texts with a-z read as A-Z (FnCompareCaseInsensitiveFoldsASCII returns true), with the tables that the library names as the program's text lays them (the tied card). No other conditions. -/
import Derived.Test.YtdiimpggoejphaaDoorRows
import Derived.WalkKit
import Derived.Test.YtdiimpggoejphaaDoorCards
import Derived.Test.YtdiimpggoejphaaDoorTie
import Derived.LaidMore
import Derived.Stop.Joined
import Derived.Lib.Hide
import Derived.Lay
import Derived.Test.YtdiimpggoejphaaDoorCmp
import Derived.ProofKit
import Derived.Below
import Derived.OpenShut
import Derived.ShutString
namespace Go.Proofs.YtdiimpggoejphaaDoor.fnCompareCaseInsensitiveFoldsASCII
open Go.ChangeShapes Go.WideShapes Go.ChangeAt Go.RowKit
open Go.ChangeMaps (open_string shut_string)
set_option linter.unusedVariables false      -- a walk need not use every 'w<i>' (that an integer argument fits its kind)

theorem own : ownKnob Tryd.prog.godebug = none := by kernel_rfl

/-! ### STEP 1: THE WALK: the Go text returns true. 'Below w.heap.size w w'': the world has at most new blocks (Derived/RowKit3.lean). Part the cases AHEAD of 'go_enter' where a test parts the walk; take each callee by a contract of your own. -/
open CM
set_option maxRecDepth 100000 in
set_option maxHeartbeats 4000000 in
theorem good (a b : ByteArray) (w : World) (h : a.size + b.size ≤ 1048576) : Calls Tryd.prog 3 #[.string a, .string b] w fun e w' => e = .returned (.bool true) ∧ Below w.heap.size w w' := by
  have h1 : ¬ (1048576 : Int) < (a.size : Int) := by omega
  have h2 : ¬ (1048576 : Int) < (b.size : Int) := by omega
  have h3 : ¬ (1048576 : Int) < (a.size : Int) + (b.size : Int) := by omega
  have tok : True := trivial
  go_enter Tryd.func3, Tryd.ntmps3
  go_wp2_with (first
    | (go_at_call 5; go_in)
    | (have _t := tok; go_at_call 6; refine (ascii_any a _ (by omega)).mono ?_; rintro e w' ⟨x, rfl, hx, rfl⟩; have HX := Lib.hid hx; clear hx _t tok; cases x)
    | (go_at_call 6; refine (ascii_any b _ (by omega)).mono ?_; rintro e w' ⟨y, rfl, hy, rfl⟩; have HY := Lib.hid hy; clear hy; cases y)
    | (go_at_call 7; refine (zcompare_any a b _ (by omega) (by omega) (HX.out rfl) (HY.out rfl)).mono ?_; rintro e w1 ⟨rfl, hb1⟩; have HB1 := Lib.hid hb1; clear hb1)
    | (go_at_call 8; refine (fold_any a b _ (by omega) (by omega)).mono ?_; rintro e w' ⟨rfl, rfl⟩))
  all_goals first
    | (go_ret; exact ⟨rfl, Below.refl _ _⟩)
    | (go_ret; exact ⟨by first | rfl | simp, HB1.out⟩)
set_option maxHeartbeats 1000000 in
theorem walk (a0 : ByteArray) (a1 : ByteArray) (w0 : a0.size ≤ maxLen) (w1 : a1.size ≤ maxLen) (w : World) (hL : laidMetH Tryd.prog Rows.fnCompareCaseInsensitiveFoldsASCIIRow.laid w) :
    Calls Tryd.prog 3 #[.string a0, .string a1] w fun e w' => e = .returned (.bool true) ∧ Below w.heap.size w w' := by
  unfold maxLen at w0 w1
  by_cases h : a0.size + a1.size ≤ 1048576
  · exact good a0 a1 w h
  by_cases h1 : 1048576 < a0.size
  · have i1 : (1048576 : Int) < (a0.size : Int) := by omega
    go_enter Tryd.func3, Tryd.ntmps3
    go_wp2_with (go_at_call 5; go_in)
    go_ret
    exact ⟨rfl, Below.refl _ _⟩
  have i1 : ¬ (1048576 : Int) < (a0.size : Int) := by omega
  by_cases h2 : 1048576 < a1.size
  · have i2 : (1048576 : Int) < (a1.size : Int) := by omega
    go_enter Tryd.func3, Tryd.ntmps3
    go_wp2_with (go_at_call 5; go_in)
    go_ret
    exact ⟨rfl, Below.refl _ _⟩
  have i2 : ¬ (1048576 : Int) < (a1.size : Int) := by omega
  have i3 : (1048576 : Int) < (a0.size : Int) + (a1.size : Int) := by omega
  go_enter Tryd.func3, Tryd.ntmps3
  go_wp2_with (go_at_call 5; go_in)
  go_ret
  exact ⟨rfl, Below.refl _ _⟩

/-! ### THE ROW's STEP: WRITTEN OUT: LEAVE IT -/
set_option maxRecDepth 100000 in
theorem lifted (os : Os) (started : os.Started) (H : Type) (enc : TypeId × Value → H) :
    ReturnsInHanded {} Tryd.checked os 3 .any (fun w args => (Rows.fnCompareCaseInsensitiveFoldsASCIISpec.pre enc Tryd.prog Tryd.f3 [] false w args ∧ laidMetH Tryd.prog Rows.fnCompareCaseInsensitiveFoldsASCIIRow.laid w) ∧ sizedMet enc Tryd.prog Tryd.f3 (OpenSpec.ofChange Rows.fnCompareCaseInsensitiveFoldsASCIISpec) false w args) (Rows.fnCompareCaseInsensitiveFoldsASCIISpec.post enc Tryd.prog Tryd.f3 false true false false) := by
  refine returnsInHanded_of_change_and (C := Tryd.checked) (X := fun w _ => laidMetH Tryd.prog Rows.fnCompareCaseInsensitiveFoldsASCIIRow.laid w) (fun _ _ _ hh h => h.of_heap hh) own started (by kernel_rfl) Tryd.func3
    (ChangeSpec.witness_shaped (enc := enc) (C := Tryd.checked) (os := os) (X := fun w _ => laidMetH Tryd.prog Rows.fnCompareCaseInsensitiveFoldsASCIIRow.laid w) false (World.laidAll Tryd.prog os Rows.fnCompareCaseInsensitiveFoldsASCIIRow.laid) #[.string ByteArray.empty, .string ByteArray.empty] 8 (World.laidAll_os _ _ _) (World.shaped_of_ZipB (by kernel_rfl) (by kernel_rfl)) (by kernel_rfl) (by kernel_rfl) (by kernel_rfl) (by rw [MakeChecks.laidMetH_plain _ _ _ (by kernel_rfl)]; exact laidMet_laidAll _ (by kernel_rfl) (by kernel_rfl))) ?_
  intro W base args ds gs before hval0 hW _ _ hL _
  have hval : ∀ (j : Nat) t v, Tryd.f3.params[j]? = some t → args[j]? = some v → Value.okWide Tryd.prog W .any base t v := hval0
  have hW' := hW
  obtain ⟨p, q, hA0, hV, rfl, hfz, hnd⟩ := hW
  have hA : DataW.TrodAll enc Tryd.prog W 0 (fun _ => true) true Tryd.f3.params.toList args.toList ds p := hA0
  rw [Tryd.params3] at hA hval
  obtain ⟨v0, vs0, d0, ds0, p0, q0, hargs, rfl, rfl, h0, r0⟩ := trodAll_cons hA
  obtain ⟨v1, vs1, d1, ds1, p1, q1, rfl, rfl, rfl, h1, r1⟩ := trodAll_cons r0
  obtain ⟨rfl, rfl, rfl⟩ := trodAll_nil r1
  obtain rfl : args = #[v0, v1] := by cases args; simp_all
  obtain ⟨rfl, rfl⟩ := trodVars_none hV
  obtain ⟨a0, rfl, rfl, rfl, w0⟩ := open_string Tryd.underlying9 (hval 0 9 v0 rfl rfl) h0
  obtain ⟨a1, rfl, rfl, rfl, w1⟩ := open_string Tryd.underlying9 (hval 1 9 v1 rfl rfl) h1
  clear hA0 hval0
  simp only [List.append_nil] at hW'
  refine (walk a0 a1 w0 w1 W hL).mono fun e W' ⟨he, bel⟩ => ?_
  subst he
  exact ⟨_, rfl, _, _, _, [], [], [], hW', (trodAll_cons_mk (shut_bool Tryd.underlying4 _) trodAll_mk0), (trodAll_cons_mk (shut_string Tryd.underlying9 w0) (trodAll_cons_mk (shut_string Tryd.underlying9 w1) trodAll_mk0)), rfl, bel.frame _, fun h => by cases h⟩

theorem over : Rows.fnCompareCaseInsensitiveFoldsASCIIRow.holds Tryd.pinned (OpenSpec.ofChange Rows.fnCompareCaseInsensitiveFoldsASCIISpec) :=
  OpenClaim.holds_of_wide 3 Tryd.f3 rfl rfl rfl rfl rfl rfl rfl ⟨rfl, rfl, rfl, rfl, rfl⟩ rfl rfl rfl rfl rfl (by kernel_rfl) Tryd.func3 (by kernel_rfl)
    (of_decide_eq_true (by kernel_rfl)) (by unfold Func.isWrapper; first | (rw [if_pos (by decide +kernel)]; kernel_rfl) | (rw [if_neg (by decide +kernel)]; exact ⟨rfl, rfl⟩))
    (fun os started H enc _ => lifted os started H enc)

/-- ████ THE STATEMENT ████ -/
theorem proved : Rows.FnCompareCaseInsensitiveFoldsASCIISaid :=
  over
/-- no parameter wants a stand-in; the program's own looks are as the card has them -/
theorem plain (f : FuncId) (fn : Func) (hf : Tryd.pinned.checked.prog.funcNamed "mvdan.cc/sh/v3/n010_50.FnCompareCaseInsensitiveFoldsASCII" = some f) (hfn : Tryd.pinned.checked.prog.funcs[f]? = some fn) :
    false = Tryd.pinned.checked.prog.looks [] ∧ ∀ (j : Nat) t, fn.params[j]? = some t → Tryd.pinned.checked.prog.wantsStandIn t = false := by
  obtain rfl : f = 3 := Option.some.inj ((show Tryd.prog.funcNamed "mvdan.cc/sh/v3/n010_50.FnCompareCaseInsensitiveFoldsASCII" = some 3 by kernel_rfl).symm.trans hf) |>.symm
  obtain rfl : fn = Tryd.f3 := (Option.some.inj (Tryd.func3.symm.trans hfn)).symm
  refine ⟨by kernel_rfl, fun j t ht => ?_⟩
  rw [Tryd.params3] at ht
  have hm := Array.mem_of_getElem? ht
  simp only [List.mem_toArray, List.mem_cons, List.not_mem_nil, or_false] at hm
  first
    | (rcases hm with rfl | rfl | rfl | rfl | rfl | rfl <;> (show Tryd.prog.wantsStandIn _ = false; kernel_rfl))
    | (rcases hm with rfl | rfl | rfl | rfl | rfl <;> (show Tryd.prog.wantsStandIn _ = false; kernel_rfl))
    | (rcases hm with rfl | rfl | rfl | rfl <;> (show Tryd.prog.wantsStandIn _ = false; kernel_rfl))
    | (rcases hm with rfl | rfl | rfl <;> (show Tryd.prog.wantsStandIn _ = false; kernel_rfl))
    | (rcases hm with rfl | rfl <;> (show Tryd.prog.wantsStandIn _ = false; kernel_rfl))
    | (subst hm; show Tryd.prog.wantsStandIn _ = false; kernel_rfl)
theorem card : Rows.FnCompareCaseInsensitiveFoldsASCIICardSaid :=
  Claim7.holds_tied_plain_at .later [] _ _ _ _ proved (fun _ h => by cases h) (by kernel_rfl) (fun _ h => by cases h) fnCompareCaseInsensitiveFoldsASCII_row_tie rfl ⟨rfl, rfl⟩ (by kernel_rfl) rfl plain (by kernel_rfl)
#print axioms card
end Go.Proofs.YtdiimpggoejphaaDoor.fnCompareCaseInsensitiveFoldsASCII
