/- Proved here: two positions built by NewPos are equal exactly when the clamped offsets, the normalised lines and the normalised columns agree (FnNewPosEqualExactlyWhenNormalisedEqual returns true). No conditions. -/
import Derived.Test.YtmojheonollpeaaRows
import Derived.WalkKit
import Derived.Test.YtmojheonollpeaaPos
import Derived.ProofKit
import Derived.Below
import Derived.OpenShut
import Derived.ShutString
namespace Go.Proofs.Ytmojheonollpeaa.fnNewPosEqualExactlyWhenNormalisedEqual
open Go.ChangeShapes Go.WideShapes Go.ChangeAt Go.RowKit
open Go.ChangeMaps (open_string shut_string)
set_option linter.unusedVariables false      -- a walk need not use every 'w<i>' (that an integer argument fits its kind)

theorem own : ownKnob Try.prog.godebug = none := by kernel_rfl

/-! ### STEP 1: THE WALK: the Go text returns true. 'Below w.heap.size w w'': the world has at most new blocks (Derived/RowKit3.lean). Part the cases AHEAD of 'go_enter' where a test parts the walk; take each callee by a contract of your own. -/
theorem clamp_c (o : Int) (w : World) : Calls Try.prog 15 #[.int .u64 o] w fun e w' => e = .returned (.int .u64 (clampO o)) ∧ w = w' := by
  by_cases h : o ≤ 4294967284
  · rw [clampO_le h]
    go_enter Try.func15, Try.ntmps15
    go_wp2
    go_ret
    exact ⟨rfl, rfl⟩
  · rw [clampO_gt h]
    go_enter Try.func15, Try.ntmps15
    go_wp2
    go_ret
    exact ⟨rfl, rfl⟩
theorem line_c (o : Int) (w : World) : Calls Try.prog 16 #[.int .u64 o] w fun e w' => e = .returned (.int .u64 (normL o)) ∧ w = w' := by
  by_cases h : o ≤ 262143
  · rw [normL_le h]
    go_enter Try.func16, Try.ntmps16
    go_wp2
    go_ret
    exact ⟨rfl, rfl⟩
  · rw [normL_gt h]
    go_enter Try.func16, Try.ntmps16
    go_wp2
    go_ret
    exact ⟨rfl, rfl⟩
theorem col_c (o : Int) (w : World) : Calls Try.prog 17 #[.int .u64 o] w fun e w' => e = .returned (.int .u64 (normC o)) ∧ w = w' := by
  by_cases h : o ≤ 16383
  · rw [normC_le h]
    go_enter Try.func17, Try.ntmps17
    go_wp2
    go_ret
    exact ⟨rfl, rfl⟩
  · rw [normC_gt h]
    go_enter Try.func17, Try.ntmps17
    go_wp2
    go_ret
    exact ⟨rfl, rfl⟩
theorem pack_eq (l c m d : Int) (h1 : 0 ≤ l) (h2 : 0 ≤ c) (h3 : 0 ≤ m) (h4 : 0 ≤ d) : packLC l c = packLC m d ↔ normL l = normL m ∧ normC c = normC d := by
  have := normL_bd l h1; have := normC_bd c h2; have := normL_bd m h3; have := normC_bd d h4
  unfold packLC; omega
set_option maxHeartbeats 1000000 in
theorem walk (a0 : Int) (a1 : Int) (a2 : Int) (a3 : Int) (a4 : Int) (a5 : Int) (w0 : (Lit.int .u64 a0).wf = true) (w1 : (Lit.int .u64 a1).wf = true) (w2 : (Lit.int .u64 a2).wf = true) (w3 : (Lit.int .u64 a3).wf = true) (w4 : (Lit.int .u64 a4).wf = true) (w5 : (Lit.int .u64 a5).wf = true) (w : World) :
    Calls Try.prog 5 #[.int .u64 a0, .int .u64 a1, .int .u64 a2, .int .u64 a3, .int .u64 a4, .int .u64 a5] w fun e w' => e = .returned (.bool true) ∧ Below w.heap.size w w' := by
  have b0 : 0 ≤ a0 := (bounds_u64 w0).1
  have b1 : 0 ≤ a1 := (bounds_u64 w1).1
  have b2 : 0 ≤ a2 := (bounds_u64 w2).1
  have b3 : 0 ≤ a3 := (bounds_u64 w3).1
  have b4 : 0 ≤ a4 := (bounds_u64 w4).1
  have b5 : 0 ≤ a5 := (bounds_u64 w5).1
  clear w0 w1 w2 w3 w4 w5
  have gp : (packLC a1 a2 == packLC a4 a5) = ((normL a1 == normL a4) && (normC a2 == normC a5)) := by
    rw [Bool.eq_iff_iff]
    simpa using pack_eq a1 a2 a4 a5 b1 b2 b4 b5
  rcases Bool.eq_false_or_eq_true (clampO a0 == clampO a3) with go | go <;> rcases Bool.eq_false_or_eq_true (normL a1 == normL a4) with gl | gl <;> rcases Bool.eq_false_or_eq_true (normC a2 == normC a5) with gc | gc
  all_goals
    rw [gl, gc] at gp
    simp only [Bool.and_self, Bool.and_true, Bool.and_false] at gp
    go_enter Try.func5, Try.ntmps5
    go_wp2_with (first | (go_at_call 11; refine (newPos_any _ _ _ _ (by assumption) (by assumption) (by assumption)).mono ?_; rintro e w1 ⟨rfl, rfl⟩) | (go_at_call 15; refine (clamp_c _ _).mono ?_; rintro e w1 ⟨rfl, rfl⟩) | (go_at_call 16; refine (line_c _ _).mono ?_; rintro e w1 ⟨rfl, rfl⟩) | (go_at_call 17; refine (col_c _ _).mono ?_; rintro e w1 ⟨rfl, rfl⟩))
    go_ret
    exact ⟨rfl, by repeat (first | exact Below.refl _ _ | apply Below.drew | apply bal)⟩

/-! ### THE ROW's STEP: WRITTEN OUT: LEAVE IT -/
set_option maxRecDepth 100000 in
theorem lifted (os : Os) (started : os.Started) (H : Type) (enc : TypeId × Value → H) :
    ReturnsInHanded {} Try.checked os 5 .any (Rows.fnNewPosEqualExactlyWhenNormalisedEqualSpec.pre6 enc Try.prog Try.f5 Rows.fnNewPosEqualExactlyWhenNormalisedEqualRow.domain false) (Rows.fnNewPosEqualExactlyWhenNormalisedEqualSpec.post enc Try.prog Try.f5 false true false false) := by
  refine returnsInHanded_of_change (C := Try.checked) own started (by kernel_rfl) Try.func5
    (ChangeSpec.witness6 (enc := enc) (C := Try.checked) false ⟨#[], #[.int .u64 0, .int .u64 0, .int .u64 0, .int .u64 0, .int .u64 0, .int .u64 0], []⟩ 8 (by kernel_rfl) (by kernel_rfl) (by kernel_rfl) (by kernel_rfl)) ?_
  intro W base args ds gs before hval0 hW hcnd _
  have hval : ∀ (j : Nat) t v, Try.f5.params[j]? = some t → args[j]? = some v → Value.okWide Try.prog W .any base t v := hval0
  have hW' := hW
  obtain ⟨p, q, hA0, hV, rfl, hfz, hnd⟩ := hW
  have hA : DataW.TrodAll enc Try.prog W 0 (fun _ => true) true Try.f5.params.toList args.toList ds p := hA0
  rw [Try.params5] at hA hval
  obtain ⟨v0, vs0, d0, ds0, p0, q0, hargs, rfl, rfl, h0, r0⟩ := trodAll_cons hA
  obtain ⟨v1, vs1, d1, ds1, p1, q1, rfl, rfl, rfl, h1, r1⟩ := trodAll_cons r0
  obtain ⟨v2, vs2, d2, ds2, p2, q2, rfl, rfl, rfl, h2, r2⟩ := trodAll_cons r1
  obtain ⟨v3, vs3, d3, ds3, p3, q3, rfl, rfl, rfl, h3, r3⟩ := trodAll_cons r2
  obtain ⟨v4, vs4, d4, ds4, p4, q4, rfl, rfl, rfl, h4, r4⟩ := trodAll_cons r3
  obtain ⟨v5, vs5, d5, ds5, p5, q5, rfl, rfl, rfl, h5, r5⟩ := trodAll_cons r4
  obtain ⟨rfl, rfl, rfl⟩ := trodAll_nil r5
  obtain rfl : args = #[v0, v1, v2, v3, v4, v5] := by cases args; simp_all
  obtain ⟨rfl, rfl⟩ := trodVars_none hV
  obtain ⟨a0, rfl, rfl, rfl, w0⟩ := open_int Try.underlying27 (hval 0 27 v0 rfl rfl) h0
  obtain ⟨a1, rfl, rfl, rfl, w1⟩ := open_int Try.underlying27 (hval 1 27 v1 rfl rfl) h1
  obtain ⟨a2, rfl, rfl, rfl, w2⟩ := open_int Try.underlying27 (hval 2 27 v2 rfl rfl) h2
  obtain ⟨a3, rfl, rfl, rfl, w3⟩ := open_int Try.underlying27 (hval 3 27 v3 rfl rfl) h3
  obtain ⟨a4, rfl, rfl, rfl, w4⟩ := open_int Try.underlying27 (hval 4 27 v4 rfl rfl) h4
  obtain ⟨a5, rfl, rfl, rfl, w5⟩ := open_int Try.underlying27 (hval 5 27 v5 rfl rfl) h5
  clear hA0 hval0
  simp only [List.append_nil] at hW'
  refine (walk a0 a1 a2 a3 a4 a5 w0 w1 w2 w3 w4 w5 W).mono fun e W' ⟨he, bel⟩ => ?_
  subst he
  exact ⟨_, rfl, _, _, _, [], [], [], hW', (trodAll_cons_mk (shut_bool Try.underlying4 _) trodAll_mk0), (trodAll_cons_mk (shut_int Try.underlying27 w0) (trodAll_cons_mk (shut_int Try.underlying27 w1) (trodAll_cons_mk (shut_int Try.underlying27 w2) (trodAll_cons_mk (shut_int Try.underlying27 w3) (trodAll_cons_mk (shut_int Try.underlying27 w4) (trodAll_cons_mk (shut_int Try.underlying27 w5) trodAll_mk0)))))), rfl, bel.frame _, fun h => by cases h⟩

theorem over : Rows.fnNewPosEqualExactlyWhenNormalisedEqualRow.holds Try.pinned (OpenSpec.ofChange Rows.fnNewPosEqualExactlyWhenNormalisedEqualSpec) :=
  OpenClaim.holds_of_wide 5 Try.f5 rfl rfl rfl rfl rfl rfl rfl ⟨rfl, rfl, rfl, rfl, rfl⟩ rfl rfl rfl rfl rfl (by kernel_rfl) Try.func5 (by kernel_rfl)
    (of_decide_eq_true (by kernel_rfl)) (by unfold Func.isWrapper; first | (rw [if_pos (by decide +kernel)]; kernel_rfl) | (rw [if_neg (by decide +kernel)]; exact ⟨rfl, rfl⟩))
    (fun os started H enc _ => lifted os started H enc)

/-- ████ THE STATEMENT ████ -/
theorem proved : Rows.FnNewPosEqualExactlyWhenNormalisedEqualSaid :=
  over
#print axioms proved
end Go.Proofs.Ytmojheonollpeaa.fnNewPosEqualExactlyWhenNormalisedEqual
