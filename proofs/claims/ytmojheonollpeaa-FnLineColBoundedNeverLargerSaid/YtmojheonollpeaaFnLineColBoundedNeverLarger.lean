/- Proved here: for every offset, line and column, Line and Col of NewPos's position stay within 18 and 14 bits, never exceed what was given, are what was given or 0, and an in-range value stays non-zero (FnLineColBoundedNeverLarger returns true). No conditions. -/
import Derived.Test.YtmojheonollpeaaRows
import Derived.WalkKit
import Derived.Test.YtmojheonollpeaaPos
import Derived.ProofKit
import Derived.Below
import Derived.OpenShut
import Derived.ShutString
namespace Go.Proofs.Ytmojheonollpeaa.fnLineColBoundedNeverLarger
open Go.ChangeShapes Go.WideShapes Go.ChangeAt Go.RowKit
open Go.ChangeMaps (open_string shut_string)
set_option linter.unusedVariables false      -- a walk need not use every 'w<i>' (that an integer argument fits its kind)

theorem own : ownKnob Try.prog.godebug = none := by kernel_rfl

/-! ### STEP 1: THE WALK: the Go text returns true. 'Below w.heap.size w w'': the world has at most new blocks (Derived/RowKit3.lean). Part the cases AHEAD of 'go_enter' where a test parts the walk; take each callee by a contract of your own. -/
theorem pack_div (l c : Int) (h1 : 0 ≤ l) (h2 : 0 ≤ c) : packLC l c / 16384 = normL l := by
  have := normL_bd l h1; have := normC_bd c h2; unfold packLC; omega
theorem pack_mod (l c : Int) (h1 : 0 ≤ l) (h2 : 0 ≤ c) : packLC l c % 16384 = normC c := by
  have := normL_bd l h1; have := normC_bd c h2; unfold packLC; omega
set_option maxHeartbeats 1000000 in
theorem walk (a0 : Int) (a1 : Int) (a2 : Int) (w0 : (Lit.int .u64 a0).wf = true) (w1 : (Lit.int .u64 a1).wf = true) (w2 : (Lit.int .u64 a2).wf = true) (w : World) :
    Calls Try.prog 8 #[.int .u64 a0, .int .u64 a1, .int .u64 a2] w fun e w' => e = .returned (.bool true) ∧ Below w.heap.size w w' := by
  have b0 : 0 ≤ a0 := (bounds_u64 w0).1
  have b1 : 0 ≤ a1 := (bounds_u64 w1).1
  have b2 : 0 ≤ a2 := (bounds_u64 w2).1
  clear w0 w1 w2
  have k1 := packLC_bd a1 a2 b1 b2
  have e1 := pack_div a1 a2 b1 b2
  have e2 := pack_mod a1 a2 b1 b2
  have hl : (a1 ≤ 0 ∧ normL a1 = a1) ∨ ((0 < a1 ∧ a1 ≤ 262143) ∧ normL a1 = a1) ∨ (262143 < a1 ∧ normL a1 = 0) := by
    unfold normL; split <;> omega
  have hc : (a2 ≤ 0 ∧ normC a2 = a2) ∨ ((0 < a2 ∧ a2 ≤ 16383) ∧ normC a2 = a2) ∨ (16383 < a2 ∧ normC a2 = 0) := by
    unfold normC; split <;> omega
  rcases hl with ⟨hl, el⟩ | ⟨hl, el⟩ | ⟨hl, el⟩ <;> rcases hc with ⟨hc, ec⟩ | ⟨hc, ec⟩ | ⟨hc, ec⟩
  all_goals
    rw [el] at e1
    rw [ec] at e2
    clear el ec
    go_enter Try.func8, Try.ntmps8
    go_wp2_with (first | (go_at_call 11; refine (newPos_any _ _ _ _ (by assumption) (by assumption) (by assumption)).mono ?_; rintro e w1 ⟨rfl, rfl⟩) | (go_at_call 13; refine (line_any _ _ _ k1.1 k1.2).mono ?_; rintro e w1 ⟨rfl, rfl⟩; rw [e1]) | (go_at_call 14; refine (col_any _ _ _ k1.1 k1.2).mono ?_; rintro e w1 ⟨rfl, rfl⟩; rw [e2]))
    go_ret
    exact ⟨rfl, by repeat (first | exact Below.refl _ _ | apply Below.drew | apply bal)⟩

/-! ### THE ROW's STEP: WRITTEN OUT: LEAVE IT -/
set_option maxRecDepth 100000 in
theorem lifted (os : Os) (started : os.Started) (H : Type) (enc : TypeId × Value → H) :
    ReturnsInHanded {} Try.checked os 8 .any (Rows.fnLineColBoundedNeverLargerSpec.pre6 enc Try.prog Try.f8 Rows.fnLineColBoundedNeverLargerRow.domain false) (Rows.fnLineColBoundedNeverLargerSpec.post enc Try.prog Try.f8 false true false false) := by
  refine returnsInHanded_of_change (C := Try.checked) own started (by kernel_rfl) Try.func8
    (ChangeSpec.witness6 (enc := enc) (C := Try.checked) false ⟨#[], #[.int .u64 0, .int .u64 0, .int .u64 0], []⟩ 8 (by kernel_rfl) (by kernel_rfl) (by kernel_rfl) (by kernel_rfl)) ?_
  intro W base args ds gs before hval0 hW hcnd _
  have hval : ∀ (j : Nat) t v, Try.f8.params[j]? = some t → args[j]? = some v → Value.okWide Try.prog W .any base t v := hval0
  have hW' := hW
  obtain ⟨p, q, hA0, hV, rfl, hfz, hnd⟩ := hW
  have hA : DataW.TrodAll enc Try.prog W 0 (fun _ => true) true Try.f8.params.toList args.toList ds p := hA0
  rw [Try.params8] at hA hval
  obtain ⟨v0, vs0, d0, ds0, p0, q0, hargs, rfl, rfl, h0, r0⟩ := trodAll_cons hA
  obtain ⟨v1, vs1, d1, ds1, p1, q1, rfl, rfl, rfl, h1, r1⟩ := trodAll_cons r0
  obtain ⟨v2, vs2, d2, ds2, p2, q2, rfl, rfl, rfl, h2, r2⟩ := trodAll_cons r1
  obtain ⟨rfl, rfl, rfl⟩ := trodAll_nil r2
  obtain rfl : args = #[v0, v1, v2] := by cases args; simp_all
  obtain ⟨rfl, rfl⟩ := trodVars_none hV
  obtain ⟨a0, rfl, rfl, rfl, w0⟩ := open_int Try.underlying27 (hval 0 27 v0 rfl rfl) h0
  obtain ⟨a1, rfl, rfl, rfl, w1⟩ := open_int Try.underlying27 (hval 1 27 v1 rfl rfl) h1
  obtain ⟨a2, rfl, rfl, rfl, w2⟩ := open_int Try.underlying27 (hval 2 27 v2 rfl rfl) h2
  clear hA0 hval0
  simp only [List.append_nil] at hW'
  refine (walk a0 a1 a2 w0 w1 w2 W).mono fun e W' ⟨he, bel⟩ => ?_
  subst he
  exact ⟨_, rfl, _, _, _, [], [], [], hW', (trodAll_cons_mk (shut_bool Try.underlying4 _) trodAll_mk0), (trodAll_cons_mk (shut_int Try.underlying27 w0) (trodAll_cons_mk (shut_int Try.underlying27 w1) (trodAll_cons_mk (shut_int Try.underlying27 w2) trodAll_mk0))), rfl, bel.frame _, fun h => by cases h⟩

theorem over : Rows.fnLineColBoundedNeverLargerRow.holds Try.pinned (OpenSpec.ofChange Rows.fnLineColBoundedNeverLargerSpec) :=
  OpenClaim.holds_of_wide 8 Try.f8 rfl rfl rfl rfl rfl rfl rfl ⟨rfl, rfl, rfl, rfl, rfl⟩ rfl rfl rfl rfl rfl (by kernel_rfl) Try.func8 (by kernel_rfl)
    (of_decide_eq_true (by kernel_rfl)) (by unfold Func.isWrapper; first | (rw [if_pos (by decide +kernel)]; kernel_rfl) | (rw [if_neg (by decide +kernel)]; exact ⟨rfl, rfl⟩))
    (fun os started H enc _ => lifted os started H enc)

/-- ████ THE STATEMENT ████ -/
theorem proved : Rows.FnLineColBoundedNeverLargerSaid :=
  over
#print axioms proved
end Go.Proofs.Ytmojheonollpeaa.fnLineColBoundedNeverLarger
