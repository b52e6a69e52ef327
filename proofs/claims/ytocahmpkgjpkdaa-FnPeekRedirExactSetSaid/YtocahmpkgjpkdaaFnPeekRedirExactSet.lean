/- Proved here: for every token value t, peekRedir is true exactly when t is the literal-redirect token or lies between RdrOut and AppAllClob (FnPeekRedirExactSet returns true). No conditions. -/
import Derived.Test.YtocahmpkgjpkdaaRows
import Derived.WalkKit
import Derived.Test.YtocahmpkgjpkdaaPs
import Derived.Laws.IdiomStrings
import Derived.ProofKit
import Derived.Below
import Derived.OpenShut
import Derived.ShutString
namespace Go.Proofs.Ytocahmpkgjpkdaa.fnPeekRedirExactSet
open Go.ChangeShapes Go.WideShapes Go.ChangeAt Go.RowKit
open Go.ChangeMaps (open_string shut_string)
set_option linter.unusedVariables false      -- a walk need not use every 'w<i>' (that an integer argument fits its kind)

theorem own : ownKnob Try.prog.godebug = none := by kernel_rfl

/-! ### STEP 1: THE WALK: the Go text returns true. 'Below w.heap.size w w'': the world has at most new blocks (Derived/RowKit3.lean). Part the cases AHEAD of 'go_enter' where a test parts the walk; take each callee by a contract of your own. -/
theorem cells_at {C : Array Value} {t : TypeId} {w : World} {i : Nat} {v : Value} (h : C[i]? = some v) : (w.alloc (.cells C t)).cell? ⟨w.heap.size, i, none⟩ = some v := by
  rw [World.cell?_alloc_mark]; exact h
theorem redirB_in {t : Int} (h1 : 63 ≤ t) (h2 : t ≤ 77) : redirB t = true := by simp [redirB, h1, h2]
theorem redirB_out {t : Int} (h : (t == 5) = false) (h1 : ¬ (63 ≤ t ∧ t ≤ 77)) : redirB t = false := by rw [redirB, h]; simpa using h1
theorem redirB_5 {t : Int} (h : (t == 5) = true) : redirB t = true := by rw [redirB, h]; rfl
set_option maxHeartbeats 1000000 in
theorem walk (a0 : Int) (w0 : (Lit.int .u32 a0).wf = true) (w : World) :
    Calls Try.prog 3 #[.int .u32 a0] w fun e w' => e = .returned (.bool true) ∧ Below w.heap.size w w' := by
  rcases Bool.eq_false_or_eq_true (a0 == 5) with h5 | h5
  · have hd := redirB_5 h5
    go_enter Try.func3, Try.ntmps3
    go_wp2_with (first | (go_at_call 8; go_in) | (go_at_call 9; refine (newState_any _ _ _ _ _ _).mono ?_; rintro e w1 ⟨C, rfl, rfl, hS⟩) | (go_at_call 10; go_in) | (go_at_call 25; refine (peekRedir_any _ a0 _ (cells_at hS.2.1)).mono ?_; rintro e w2 ⟨rfl, rfl⟩))
    go_ret
    exact ⟨rfl, (Below.refl _ _).alloc (Nat.le_refl _) _⟩
  · by_cases h1 : 63 ≤ a0 <;> by_cases h2 : a0 ≤ 77
    all_goals
      first | have hd := redirB_in h1 h2 | have hd := redirB_out h5 (by omega)
      go_enter Try.func3, Try.ntmps3
      go_wp2_with (first | (go_at_call 8; go_in) | (go_at_call 9; refine (newState_any _ _ _ _ _ _).mono ?_; rintro e w1 ⟨C, rfl, rfl, hS⟩) | (go_at_call 10; go_in) | (go_at_call 25; refine (peekRedir_any _ a0 _ (cells_at hS.2.1)).mono ?_; rintro e w2 ⟨rfl, rfl⟩))
      go_ret
      exact ⟨rfl, (Below.refl _ _).alloc (Nat.le_refl _) _⟩

/-! ### THE ROW's STEP: WRITTEN OUT: LEAVE IT -/
set_option maxRecDepth 100000 in
theorem lifted (os : Os) (started : os.Started) (H : Type) (enc : TypeId × Value → H) :
    ReturnsInHanded {} Try.checked os 3 .any (Rows.fnPeekRedirExactSetSpec.pre6 enc Try.prog Try.f3 Rows.fnPeekRedirExactSetRow.domain false) (Rows.fnPeekRedirExactSetSpec.post enc Try.prog Try.f3 false true false false) := by
  refine returnsInHanded_of_change (C := Try.checked) own started (by kernel_rfl) Try.func3
    (ChangeSpec.witness6 (enc := enc) (C := Try.checked) false ⟨#[], #[.int .u32 0], []⟩ 8 (by kernel_rfl) (by kernel_rfl) (by kernel_rfl) (by kernel_rfl)) ?_
  intro W base args ds gs before hval0 hW hcnd _
  have hval : ∀ (j : Nat) t v, Try.f3.params[j]? = some t → args[j]? = some v → Value.okWide Try.prog W .any base t v := hval0
  have hW' := hW
  obtain ⟨p, q, hA0, hV, rfl, hfz, hnd⟩ := hW
  have hA : DataW.TrodAll enc Try.prog W 0 (fun _ => true) true Try.f3.params.toList args.toList ds p := hA0
  rw [Try.params3] at hA hval
  obtain ⟨v0, vs0, d0, ds0, p0, q0, hargs, rfl, rfl, h0, r0⟩ := trodAll_cons hA
  obtain ⟨rfl, rfl, rfl⟩ := trodAll_nil r0
  obtain rfl : args = #[v0] := by cases args; simp_all
  obtain ⟨rfl, rfl⟩ := trodVars_none hV
  obtain ⟨a0, rfl, rfl, rfl, w0⟩ := open_int Try.underlying22 (hval 0 22 v0 rfl rfl) h0
  clear hA0 hval0
  simp only [List.append_nil] at hW'
  refine (walk a0 w0 W).mono fun e W' ⟨he, bel⟩ => ?_
  subst he
  exact ⟨_, rfl, _, _, _, [], [], [], hW', (trodAll_cons_mk (shut_bool Try.underlying4 _) trodAll_mk0), (trodAll_cons_mk (shut_int Try.underlying22 w0) trodAll_mk0), rfl, bel.frame _, fun h => by cases h⟩

theorem over : Rows.fnPeekRedirExactSetRow.holds Try.pinned (OpenSpec.ofChange Rows.fnPeekRedirExactSetSpec) :=
  OpenClaim.holds_of_wide 3 Try.f3 rfl rfl rfl rfl rfl rfl rfl ⟨rfl, rfl, rfl, rfl, rfl⟩ rfl rfl rfl rfl rfl (by kernel_rfl) Try.func3 (by kernel_rfl)
    (of_decide_eq_true (by kernel_rfl)) (by unfold Func.isWrapper; first | (rw [if_pos (by decide +kernel)]; kernel_rfl) | (rw [if_neg (by decide +kernel)]; exact ⟨rfl, rfl⟩))
    (fun os started H enc _ => lifted os started H enc)

/-- ████ THE STATEMENT ████ -/
theorem proved : Rows.FnPeekRedirExactSetSaid :=
  over
#print axioms proved
end Go.Proofs.Ytocahmpkgjpkdaa.fnPeekRedirExactSet
