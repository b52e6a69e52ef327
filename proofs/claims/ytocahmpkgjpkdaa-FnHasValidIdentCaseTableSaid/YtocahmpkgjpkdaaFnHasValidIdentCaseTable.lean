/- Proved here: over every lexer state that the law admits, hasValidIdent answers as the case table says (FnHasValidIdentCaseTable returns true). No conditions. -/
import Derived.Test.YtocahmpkgjpkdaaRows
import Derived.WalkKit
import Derived.Test.YtocahmpkgjpkdaaIdent
import Derived.Laws.IdiomStrings
import Derived.ProofKit
import Derived.Below
import Derived.OpenShut
import Derived.ShutString
namespace Go.Proofs.Ytocahmpkgjpkdaa.fnHasValidIdentCaseTable
open Go.ChangeShapes Go.WideShapes Go.ChangeAt Go.RowKit
open Go.ChangeMaps (open_string shut_string)
set_option linter.unusedVariables false      -- a walk need not use every 'w<i>' (that an integer argument fits its kind)

theorem own : ownKnob Try.prog.godebug = none := by kernel_rfl

/-! ### STEP 1: THE WALK: the Go text returns true. 'Below w.heap.size w w'': the world has at most new blocks (Derived/RowKit3.lean). Part the cases AHEAD of 'go_enter' where a test parts the walk; take each callee by a contract of your own. -/
theorem cells_at {C : Array Value} {t : TypeId} {w : World} {i : Nat} {v : Value} (h : C[i]? = some v) : (w.alloc (.cells C t)).cell? ⟨w.heap.size, i, none⟩ = some v := by
  rw [World.cell?_alloc_mark]; exact h
theorem ps_at {C : Array Value} {t : TypeId} {w : World} {k e r l : Int} {s : ByteArray} (h : IsState C k e r l s) : PsAt (w.alloc (.cells C t)) w.heap.size k e r l s :=
  ⟨cells_at h.2.1, cells_at h.2.2.1, cells_at h.2.2.2.1, cells_at h.2.2.2.2.1, cells_at h.2.2.2.2.2⟩
theorem new_lt (w : World) (o : Obj) : w.heap.size < (w.alloc o).heap.size := by rw [World.size_alloc]; omega
theorem two_below {w w1 : World} {o : Obj} (h : Below (w.alloc o).heap.size (w.alloc o) w1) : Below w.heap.size w w1 :=
  ((Below.refl _ _).alloc (Nat.le_refl _) o).trans (h.mono (by rw [World.size_alloc]; omega))
set_option maxHeartbeats 1000000 in
theorem walk (a0 : Int) (a1 : ByteArray) (a2 : Int) (a3 : Int) (a4 : Int) (w0 : (Lit.int .u32 a0).wf = true) (w1 : a1.size ≤ maxLen) (w2 : (Lit.int .i64 a2).wf = true) (w3 : (Lit.int .i32 a3).wf = true) (w4 : (Lit.int .i64 a4).wf = true) (w : World) :
    Calls Try.prog 7 #[.int .u32 a0, .string a1, .int .i64 a2, .int .i32 a3, .int .i64 a4] w fun e w' => e = .returned (.bool true) ∧ Below w.heap.size w w' := by
  unfold maxLen at w1
  have b2 := bounds_i64 w2
  clear w0 w2 w3 w4
  by_cases hs : a1.size ≤ 1048576
  · rcases Bool.eq_false_or_eq_true (langB a4) with hl | hl
    · by_cases e1 : a2 < 0
      · go_enter Try.func7, Try.ntmps7
        go_wp2_with (first | (go_at_call 20; go_in) | (go_at_call 21; refine (langOK_any _ _).mono ?_; rintro e w' ⟨rfl, rfl⟩) | (go_at_call 22; go_in) | (go_at_call 23; refine (isLitTok_any _ _).mono ?_; rintro e w' ⟨rfl, rfl⟩) | (go_at_call 9; refine (newState_any _ _ _ _ _ _).mono ?_; rintro e w1 ⟨C, rfl, rfl, hS⟩; have HS := Lib.hid hS; clear hS) | (go_at_call 24; go_in))
        go_ret
        exact ⟨rfl, Below.refl _ _⟩
      by_cases e2 : 1048576 < a2
      · go_enter Try.func7, Try.ntmps7
        go_wp2_with (first | (go_at_call 20; go_in) | (go_at_call 21; refine (langOK_any _ _).mono ?_; rintro e w' ⟨rfl, rfl⟩) | (go_at_call 22; go_in) | (go_at_call 23; refine (isLitTok_any _ _).mono ?_; rintro e w' ⟨rfl, rfl⟩) | (go_at_call 9; refine (newState_any _ _ _ _ _ _).mono ?_; rintro e w1 ⟨C, rfl, rfl, hS⟩; have HS := Lib.hid hS; clear hS) | (go_at_call 24; go_in))
        go_ret
        exact ⟨rfl, Below.refl _ _⟩
      by_cases e3 : a2 = 0
      · subst e3
        clear e1 e2 b2
        rcases Bool.eq_false_or_eq_true (litB a0) with ht | ht
        · rcases Bool.eq_false_or_eq_true (nameOf a1) with hn | hn
          all_goals
            go_enter Try.func7, Try.ntmps7
            go_wp2_with (first | (go_at_call 20; go_in) | (go_at_call 21; refine (langOK_any _ _).mono ?_; rintro e w' ⟨rfl, rfl⟩) | (go_at_call 22; go_in) | (go_at_call 23; refine (isLitTok_any _ _).mono ?_; rintro e w' ⟨rfl, rfl⟩) | (go_at_call 9; refine (newState_any _ _ _ _ _ _).mono ?_; rintro e w1 ⟨C, rfl, rfl, hS⟩; have HS := Lib.hid hS; clear hS) | (go_at_call 24; go_in) | (go_at_call 19; refine (modelN _ _ hs).mono ?_; rintro e w' ⟨rfl, rfl⟩) | (go_at_call 45; refine (ident_plain _ _ _ _ _ _ _ (new_lt _ _) (ps_at HS.out) ht (Int.le_refl 0) hs).mono ?_; rintro e w2 ⟨rfl, hb2⟩))
            go_ret
            exact ⟨by simp, two_below hb2⟩
        · go_enter Try.func7, Try.ntmps7
          go_wp2_with (first | (go_at_call 20; go_in) | (go_at_call 21; refine (langOK_any _ _).mono ?_; rintro e w' ⟨rfl, rfl⟩) | (go_at_call 22; go_in) | (go_at_call 23; refine (isLitTok_any _ _).mono ?_; rintro e w' ⟨rfl, rfl⟩) | (go_at_call 9; refine (newState_any _ _ _ _ _ _).mono ?_; rintro e w1 ⟨C, rfl, rfl, hS⟩; have HS := Lib.hid hS; clear hS) | (go_at_call 24; go_in) | (go_at_call 45; refine (ident_no _ _ _ _ _ _ _ (ps_at HS.out) ht).mono ?_; rintro e w2 ⟨rfl, hb2⟩))
          go_ret
          exact ⟨rfl, two_below hb2⟩
      obtain ⟨E, rfl⟩ : ∃ E : Nat, a2 = (E : Int) := ⟨a2.toNat, by omega⟩
      have f0 : (0 : Int) < (E : Int) := by omega
      have hE : 1 ≤ E := by omega
      by_cases e4 : a1.size ≤ E
      · have f1 : (a1.size : Int) ≤ (E : Int) := by omega
        go_enter Try.func7, Try.ntmps7
        go_wp2_with (first | (go_at_call 20; go_in) | (go_at_call 21; refine (langOK_any _ _).mono ?_; rintro e w' ⟨rfl, rfl⟩) | (go_at_call 22; go_in) | (go_at_call 23; refine (isLitTok_any _ _).mono ?_; rintro e w' ⟨rfl, rfl⟩) | (go_at_call 9; refine (newState_any _ _ _ _ _ _).mono ?_; rintro e w1 ⟨C, rfl, rfl, hS⟩; have HS := Lib.hid hS; clear hS) | (go_at_call 24; go_in))
        go_ret
        exact ⟨rfl, Below.refl _ _⟩
      have hE2 : E < a1.size := by omega
      have f1 : (E : Int) < (a1.size : Int) := by omega
      clear e1 e2 e3 e4 b2
      rcases Bool.eq_false_or_eq_true ((a1[E].toNat : Int) != 61) with h61 | h61
      · go_enter Try.func7, Try.ntmps7
        go_wp2_with (first | (go_at_call 20; go_in) | (go_at_call 21; refine (langOK_any _ _).mono ?_; rintro e w' ⟨rfl, rfl⟩) | (go_at_call 22; go_in) | (go_at_call 23; refine (isLitTok_any _ _).mono ?_; rintro e w' ⟨rfl, rfl⟩) | (go_at_call 9; refine (newState_any _ _ _ _ _ _).mono ?_; rintro e w1 ⟨C, rfl, rfl, hS⟩; have HS := Lib.hid hS; clear hS) | (go_at_call 24; go_in))
        go_ret
        exact ⟨rfl, Below.refl _ _⟩
      rcases Bool.eq_false_or_eq_true (litB a0) with ht | ht
      · obtain ⟨p, hpl⟩ : ∃ p, ((a1[E - 1].toNat : Int) == 43) = p := ⟨_, rfl⟩
        obtain ⟨q, hq⟩ : ∃ q, (a4 != 2) = q := ⟨_, rfl⟩
        have HL := Lib.hid hl
        cases p <;> cases q
        all_goals
          rcases Bool.eq_false_or_eq_true (nameOf (a1.extract 0 E)) with hn | hn <;> rcases Bool.eq_false_or_eq_true (nameOf (a1.extract 0 (E - 1))) with hn2 | hn2
        all_goals
          go_enter Try.func7, Try.ntmps7
          go_wp2_with (first | (go_at_call 20; go_in) | (go_at_call 21; refine (langOK_any _ _).mono ?_; rintro e w' ⟨rfl, rfl⟩) | (go_at_call 22; go_in) | (go_at_call 23; refine (isLitTok_any _ _).mono ?_; rintro e w' ⟨rfl, rfl⟩) | (go_at_call 9; refine (newState_any _ _ _ _ _ _).mono ?_; rintro e w1 ⟨C, rfl, rfl, hS⟩; have HS := Lib.hid hS; clear hS) | (go_at_call 24; go_in) | (go_at_call 19; refine (modelN _ _ (extract_le _ _ hs)).mono ?_; rintro e w' ⟨rfl, rfl⟩) | (go_at_call 45; refine (ident_eq _ _ _ _ _ _ _ _ _ (new_lt _ _) (ps_at HS.out) ht hE hE2 hs HL.out hpl hq).mono ?_; rintro e w2 ⟨rfl, hb2⟩; first | rw [show cutN E _ _ = E from rfl] | rw [show cutN E _ _ = E - 1 from rfl]))
          go_ret
          exact ⟨by simp, two_below hb2⟩
      · go_enter Try.func7, Try.ntmps7
        go_wp2_with (first | (go_at_call 20; go_in) | (go_at_call 21; refine (langOK_any _ _).mono ?_; rintro e w' ⟨rfl, rfl⟩) | (go_at_call 22; go_in) | (go_at_call 23; refine (isLitTok_any _ _).mono ?_; rintro e w' ⟨rfl, rfl⟩) | (go_at_call 9; refine (newState_any _ _ _ _ _ _).mono ?_; rintro e w1 ⟨C, rfl, rfl, hS⟩; have HS := Lib.hid hS; clear hS) | (go_at_call 24; go_in) | (go_at_call 45; refine (ident_no _ _ _ _ _ _ _ (ps_at HS.out) ht).mono ?_; rintro e w2 ⟨rfl, hb2⟩))
        go_ret
        exact ⟨rfl, two_below hb2⟩
    · go_enter Try.func7, Try.ntmps7
      go_wp2_with (first | (go_at_call 20; go_in) | (go_at_call 21; refine (langOK_any _ _).mono ?_; rintro e w' ⟨rfl, rfl⟩))
      go_ret
      exact ⟨rfl, Below.refl _ _⟩
  · go_enter Try.func7, Try.ntmps7
    go_wp2
    all_goals
      go_ret
      exact ⟨rfl, Below.refl _ _⟩

/-! ### THE ROW's STEP: WRITTEN OUT: LEAVE IT -/
set_option maxRecDepth 100000 in
theorem lifted (os : Os) (started : os.Started) (H : Type) (enc : TypeId × Value → H) :
    ReturnsInHanded {} Try.checked os 7 .any (Rows.fnHasValidIdentCaseTableSpec.pre6 enc Try.prog Try.f7 Rows.fnHasValidIdentCaseTableRow.domain false) (Rows.fnHasValidIdentCaseTableSpec.post enc Try.prog Try.f7 false true false false) := by
  refine returnsInHanded_of_change (C := Try.checked) own started (by kernel_rfl) Try.func7
    (ChangeSpec.witness6 (enc := enc) (C := Try.checked) false ⟨#[], #[.int .u32 0, .string ByteArray.empty, .int .i64 0, .int .i32 0, .int .i64 0], []⟩ 8 (by kernel_rfl) (by kernel_rfl) (by kernel_rfl) (by kernel_rfl)) ?_
  intro W base args ds gs before hval0 hW hcnd _
  have hval : ∀ (j : Nat) t v, Try.f7.params[j]? = some t → args[j]? = some v → Value.okWide Try.prog W .any base t v := hval0
  have hW' := hW
  obtain ⟨p, q, hA0, hV, rfl, hfz, hnd⟩ := hW
  have hA : DataW.TrodAll enc Try.prog W 0 (fun _ => true) true Try.f7.params.toList args.toList ds p := hA0
  rw [Try.params7] at hA hval
  obtain ⟨v0, vs0, d0, ds0, p0, q0, hargs, rfl, rfl, h0, r0⟩ := trodAll_cons hA
  obtain ⟨v1, vs1, d1, ds1, p1, q1, rfl, rfl, rfl, h1, r1⟩ := trodAll_cons r0
  obtain ⟨v2, vs2, d2, ds2, p2, q2, rfl, rfl, rfl, h2, r2⟩ := trodAll_cons r1
  obtain ⟨v3, vs3, d3, ds3, p3, q3, rfl, rfl, rfl, h3, r3⟩ := trodAll_cons r2
  obtain ⟨v4, vs4, d4, ds4, p4, q4, rfl, rfl, rfl, h4, r4⟩ := trodAll_cons r3
  obtain ⟨rfl, rfl, rfl⟩ := trodAll_nil r4
  obtain rfl : args = #[v0, v1, v2, v3, v4] := by cases args; simp_all
  obtain ⟨rfl, rfl⟩ := trodVars_none hV
  obtain ⟨a0, rfl, rfl, rfl, w0⟩ := open_int Try.underlying22 (hval 0 22 v0 rfl rfl) h0
  obtain ⟨a1, rfl, rfl, rfl, w1⟩ := open_string Try.underlying9 (hval 1 9 v1 rfl rfl) h1
  obtain ⟨a2, rfl, rfl, rfl, w2⟩ := open_int Try.underlying3 (hval 2 3 v2 rfl rfl) h2
  obtain ⟨a3, rfl, rfl, rfl, w3⟩ := open_int Try.underlying21 (hval 3 21 v3 rfl rfl) h3
  obtain ⟨a4, rfl, rfl, rfl, w4⟩ := open_int Try.underlying3 (hval 4 3 v4 rfl rfl) h4
  clear hA0 hval0
  simp only [List.append_nil] at hW'
  refine (walk a0 a1 a2 a3 a4 w0 w1 w2 w3 w4 W).mono fun e W' ⟨he, bel⟩ => ?_
  subst he
  exact ⟨_, rfl, _, _, _, [], [], [], hW', (trodAll_cons_mk (shut_bool Try.underlying4 _) trodAll_mk0), (trodAll_cons_mk (shut_int Try.underlying22 w0) (trodAll_cons_mk (shut_string Try.underlying9 w1) (trodAll_cons_mk (shut_int Try.underlying3 w2) (trodAll_cons_mk (shut_int Try.underlying21 w3) (trodAll_cons_mk (shut_int Try.underlying3 w4) trodAll_mk0))))), rfl, bel.frame _, fun h => by cases h⟩

theorem over : Rows.fnHasValidIdentCaseTableRow.holds Try.pinned (OpenSpec.ofChange Rows.fnHasValidIdentCaseTableSpec) :=
  OpenClaim.holds_of_wide 7 Try.f7 rfl rfl rfl rfl rfl rfl rfl ⟨rfl, rfl, rfl, rfl, rfl⟩ rfl rfl rfl rfl rfl (by kernel_rfl) Try.func7 (by kernel_rfl)
    (of_decide_eq_true (by kernel_rfl)) (by unfold Func.isWrapper; first | (rw [if_pos (by decide +kernel)]; kernel_rfl) | (rw [if_neg (by decide +kernel)]; exact ⟨rfl, rfl⟩))
    (fun os started H enc _ => lifted os started H enc)

/-- ████ THE STATEMENT ████ -/
theorem proved : Rows.FnHasValidIdentCaseTableSaid :=
  over
#print axioms proved
end Go.Proofs.Ytocahmpkgjpkdaa.fnHasValidIdentCaseTable
