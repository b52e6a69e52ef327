/- Proved here: a while clause whose done is not before its while starts at WhilePos and ends strictly after it, on done's line, at offset min(done+4, offsetMax) (FnWhileClauseSpanOrdered returns true). No conditions. -/
import Derived.Test.YtknilfihibmgdaaRows
import Derived.WalkKit
import Derived.Test.YtknilfihibmgdaaSpan
import Derived.Deep.DeepCutAuto
import Derived.Outline
import Derived.Deep.RegionWith
import Derived.ProofKit
import Derived.Below
import Derived.OpenShut
import Derived.ShutString
namespace Go.Proofs.Ytknilfihibmgdaa.fnWhileClauseSpanOrdered
open Go.ChangeShapes Go.WideShapes Go.ChangeAt Go.RowKit
open Go.ChangeMaps (open_string shut_string)
set_option linter.unusedVariables false      -- a walk need not use every 'w<i>' (that an integer argument fits its kind)

theorem own : ownKnob Try.prog.godebug = none := by kernel_rfl

/-! ### STEP 1: THE WALK: the Go text returns true. 'Below w.heap.size w w'': the world has at most new blocks (Derived/RowKit3.lean). Part the cases AHEAD of 'go_enter' where a test parts the walk; take each callee by a contract of your own. -/
set_option maxHeartbeats 4000000 in
theorem span_case (a0 a1 a2 a3 : Int) (w : World) (h0 : 0 ≤ a0) (h1 : ¬ 4294967284 ≤ a0) (h2 : 0 ≤ a2) (h3 : a2 ≤ 4294967284) (g0 : 0 ≤ a3) (g1 : a3 ≤ 4294967295) (v1 : validB a0 a1 = true) (v2 : validB a2 a3 = true) (hle : ¬ a2 < a0) (hz : (a3 / 16384 == 0) = false)
    (vE : validB (avO a2 a3 4) (avL a2 a3 4) = true) (e0 : 0 ≤ avO a2 a3 4) (e1 : avO a2 a3 4 ≤ 4294967284) (l0 : 0 ≤ avL a2 a3 4) (l1 : avL a2 a3 4 ≤ 4294967295) (eL : avL a2 a3 4 / 16384 = a3 / 16384) (ex : a0 < avO a2 a3 4)
    (hE : (a2 + 4 ≤ 4294967284 ∧ avO a2 a3 4 = a2 + 4) ∨ (4294967284 < a2 + 4 ∧ avO a2 a3 4 = 4294967284)) :
    Calls Try.prog 8 #[.int .u32 a0, .int .u32 a1, .int .u32 a2, .int .u32 a3] w fun e w' => e = .returned (.bool true) ∧ Below w.heap.size w w' := by
  have nx : ¬ avO a2 a3 4 < a0 := by omega
  have HE := Lib.hid hE
  have HL := Lib.hid eL
  clear hE eL
  go_enter Try.func8, Try.ntmps8
  go_upto_region 10 with (first
    | (go_at_call 12; refine (valid74 _ _ _).mono ?_; rintro e w' ⟨rfl, rfl⟩)
    | (go_at_call 13; refine (newPos74 _ _ _).mono ?_; rintro e w' ⟨rfl, rfl⟩)
    | (go_at_call 35; refine (wcPos_any _ a0 a1 _ (by go_simp) (by go_simp)).mono ?_; rintro e w' ⟨rfl, rfl⟩)
    | (go_at_call 15; refine (wcEnd_any _ a2 a3 _ (by go_simp) (by go_simp) h2 g0 g1).mono ?_; rintro e w1 ⟨rfl, hb1⟩
       have c0 : w1.cell? ⟨w.heap.size + 1, 0, none⟩ = some (.int .u32 a0) := cell_later hb1 (by go_simp)
       have c1 : w1.cell? ⟨w.heap.size + 1, 1, none⟩ = some (.int .u32 a1) := cell_later hb1 (by go_simp)
       have c2 : w1.cell? ⟨w.heap.size + 1 + 1 + 1, 0, none⟩ = some (.int .u32 a2) := cell_later hb1 (by go_simp)
       have c3 : w1.cell? ⟨w.heap.size + 1 + 1 + 1, 1, none⟩ = some (.int .u32 a3) := cell_later hb1 (by go_simp)
       have c4 : w1.cell? ⟨w.heap.size + 1 + 1 + 1 + 1 + 1 + 1, 0, none⟩ = some (.int .u32 a0) := cell_later hb1 (by go_simp)
       have c5 : w1.cell? ⟨w.heap.size + 1 + 1 + 1 + 1 + 1 + 1, 1, none⟩ = some (.int .u32 a1) := cell_later hb1 (by go_simp)
       have hbw : Below w.heap.size w w1 := by
         refine Below.trans ?_ (hb1.mono (by simp only [World.size_alloc]; omega))
         repeat (first | exact Below.refl _ _ | apply Below.drew | apply bal)
       have HB1 := Lib.hid hbw
       clear hb1 hbw))
  have hS : MxS w (w.heap.size + 1) (w.heap.size + 1 + 1 + 1) (w.heap.size + 1 + 1 + 1 + 1 + 1 + 1) w1.heap.size a0 a1 a2 a3 a0 a1 (avO a2 a3 4) (avL a2 a3 4) (w1.alloc (.cells #[.int .u32 (avO a2 a3 4), .int .u32 (avL a2 a3 4)] 26)) :=
    ⟨kb c0, kb c1, kb c2, kb c3, kb c4, kb c5, by go_simp, by go_simp, bal HB1.out _⟩
  clear c0 c1 c2 c3 c4 c5 HB1
  generalize (w1.alloc (.cells #[.int .u32 (avO a2 a3 4), .int .u32 (avL a2 a3 4)] 26)) = W at *
  generalize w1.heap.size = Q at *
  generalize w.heap.size + 1 + 1 + 1 + 1 + 1 + 1 = R at *
  generalize w.heap.size + 1 + 1 + 1 = B at *
  generalize w.heap.size + 1 = A at *
  have HS := Lib.hid hS
  obtain ⟨s0, s1, s2, s3, s4, s5, s6, s7, -⟩ := hS
  go_upto_region 14 with (first
    | (go_at_call 36; refine (after_any _ _ _ _ _ (by assumption)).mono ?_; rintro e w' ⟨rfl, hw⟩
       replace HS := Lib.hid (ms_step3 hw HS.out); clear hw s0 s1 s2 s3 s4 s5 s6 s7
       obtain ⟨s0, s1, s2, s3, s4, s5, s6, s7, -⟩ := HS.out))
  go_region_with (go_at_call 37
                  first
                    | refine (line_E (avO a2 a3 4) (avL a2 a3 4) (a3 / 16384) _ l0 l1 HL.out).mono ?_
                    | refine (line_any a2 a3 _ g0 g1).mono ?_
                  rintro e w' ⟨rfl, hw⟩
                  first
                    | replace HS := Lib.hid (ms_step hw HS.out)
                    | replace HS := Lib.hid (ms_step hw (ms_drew HS.out))
                  clear hw s0 s1 s2 s3 s4 s5 s6 s7
                  obtain ⟨s0, s1, s2, s3, s4, s5, s6, s7, -⟩ := HS.out)
  all_goals
    rcases HE.out with ⟨hc, hd⟩ | ⟨hc, hd⟩
    all_goals
      clear HE
      have HD := Lib.hid hd
      clear hd
      go_wp2_with (go_at_call 38; refine (offset_in _ _ _ e0 e1).mono ?_; rintro e w' ⟨rfl, hw⟩
                   first
                     | replace HS := Lib.hid (ms_step hw HS.out)
                     | replace HS := Lib.hid (ms_step hw (ms_drew HS.out))
                   clear hw s0 s1 s2 s3 s4 s5 s6 s7
                   obtain ⟨s0, s1, s2, s3, s4, s5, s6, s7, -⟩ := HS.out)
      go_ret
      exact ⟨by first | rfl | (simp [HD.out]; done) | (rw [HD.out]; rfl), by obtain ⟨-, -, -, -, -, -, -, -, h⟩ := HS.out; repeat (first | exact h | apply Below.drew | apply bal)⟩
theorem walk (a0 : Int) (a1 : Int) (a2 : Int) (a3 : Int) (w0 : (Lit.int .u32 a0).wf = true) (w1 : (Lit.int .u32 a1).wf = true) (w2 : (Lit.int .u32 a2).wf = true) (w3 : (Lit.int .u32 a3).wf = true) (w : World) :
    Calls Try.prog 8 #[.int .u32 a0, .int .u32 a1, .int .u32 a2, .int .u32 a3] w fun e w' => e = .returned (.bool true) ∧ Below w.heap.size w w' := by
  have b0 := bounds_u32 w0
  have b1 := bounds_u32 w1
  have b2 := bounds_u32 w2
  have b3 := bounds_u32 w3
  clear w0 w1 w2 w3
  rcases Bool.eq_false_or_eq_true (validB a0 a1) with v1 | v1
  rotate_left
  · go_enter Try.func8, Try.ntmps8
    go_wp2_with (go_at_call 12; refine (valid74 _ _ _).mono ?_; rintro e w' ⟨rfl, rfl⟩)
    go_ret
    exact ⟨rfl, Below.refl _ _⟩
  rcases Bool.eq_false_or_eq_true (validB a2 a3) with v2 | v2
  rotate_left
  · go_enter Try.func8, Try.ntmps8
    go_wp2_with (go_at_call 12; refine (valid74 _ _ _).mono ?_; rintro e w' ⟨rfl, rfl⟩)
    go_ret
    exact ⟨rfl, Below.refl _ _⟩
  by_cases k1 : 4294967284 ≤ a0
  · go_enter Try.func8, Try.ntmps8
    go_wp2_with (go_at_call 12; refine (valid74 _ _ _).mono ?_; rintro e w' ⟨rfl, rfl⟩)
    go_ret
    exact ⟨rfl, Below.refl _ _⟩
  by_cases k2 : a2 < a0
  · go_enter Try.func8, Try.ntmps8
    go_wp2_with (go_at_call 12; refine (valid74 _ _ _).mono ?_; rintro e w' ⟨rfl, rfl⟩)
    go_ret
    exact ⟨rfl, Below.refl _ _⟩
  rcases Bool.eq_false_or_eq_true (a3 / 16384 == 0) with hz | hz
  · go_enter Try.func8, Try.ntmps8
    go_wp2_with (go_at_call 12; refine (valid74 _ _ _).mono ?_; rintro e w' ⟨rfl, rfl⟩)
    go_ret
    exact ⟨rfl, Below.refl _ _⟩
  have hh : ¬ a3 / 16384 = 0 := by simpa using hz
  have m2 := valid_le v2
  have eO : avO a2 a3 4 = addO a2 4 := avO_t v2
  have eL : avL a2 a3 4 = addLC a3 4 := avL_t v2
  have bO := addO_bd b2.1 (n := 4) (by omega)
  have bC := addC_bd (lc := a3) (n := 4) (by omega)
  have hE : (a2 + 4 ≤ 4294967284 ∧ avO a2 a3 4 = a2 + 4) ∨ (4294967284 < a2 + 4 ∧ avO a2 a3 4 = 4294967284) := by
    rw [eO]; unfold addO; split <;> omega
  have uL : addLC a3 4 = a3 / 16384 * 16384 + addC a3 4 := rfl
  refine span_case a0 a1 a2 a3 w b0.1 k1 b2.1 m2 b3.1 b3.2 v1 v2 k2 hz ?_ (by omega) (by omega) (by omega) (by omega) (by omega) (by omega) hE
  exact validB_t (by omega) (by omega)

/-! ### THE ROW's STEP: WRITTEN OUT: LEAVE IT -/
set_option maxRecDepth 100000 in
theorem lifted (os : Os) (started : os.Started) (H : Type) (enc : TypeId × Value → H) :
    ReturnsInHanded {} Try.checked os 8 .any (Rows.fnWhileClauseSpanOrderedSpec.pre6 enc Try.prog Try.f8 Rows.fnWhileClauseSpanOrderedRow.domain false) (Rows.fnWhileClauseSpanOrderedSpec.post enc Try.prog Try.f8 false true false false) := by
  refine returnsInHanded_of_change (C := Try.checked) own started (by kernel_rfl) Try.func8
    (ChangeSpec.witness6 (enc := enc) (C := Try.checked) false ⟨#[], #[.int .u32 0, .int .u32 0, .int .u32 0, .int .u32 0], []⟩ 8 (by kernel_rfl) (by kernel_rfl) (by kernel_rfl) (by kernel_rfl)) ?_
  intro W base args ds gs before hval0 hW hcnd _
  have hval : ∀ (j : Nat) t v, Try.f8.params[j]? = some t → args[j]? = some v → Value.okWide Try.prog W .any base t v := hval0
  have hW' := hW
  obtain ⟨p, q, hA0, hV, rfl, hfz, hnd⟩ := hW
  have hA : DataW.TrodAll enc Try.prog W 0 (fun _ => true) true Try.f8.params.toList args.toList ds p := hA0
  rw [Try.params8] at hA hval
  obtain ⟨v0, vs0, d0, ds0, p0, q0, hargs, rfl, rfl, h0, r0⟩ := trodAll_cons hA
  obtain ⟨v1, vs1, d1, ds1, p1, q1, rfl, rfl, rfl, h1, r1⟩ := trodAll_cons r0
  obtain ⟨v2, vs2, d2, ds2, p2, q2, rfl, rfl, rfl, h2, r2⟩ := trodAll_cons r1
  obtain ⟨v3, vs3, d3, ds3, p3, q3, rfl, rfl, rfl, h3, r3⟩ := trodAll_cons r2
  obtain ⟨rfl, rfl, rfl⟩ := trodAll_nil r3
  obtain rfl : args = #[v0, v1, v2, v3] := by cases args; simp_all
  obtain ⟨rfl, rfl⟩ := trodVars_none hV
  obtain ⟨a0, rfl, rfl, rfl, w0⟩ := open_int Try.underlying22 (hval 0 22 v0 rfl rfl) h0
  obtain ⟨a1, rfl, rfl, rfl, w1⟩ := open_int Try.underlying22 (hval 1 22 v1 rfl rfl) h1
  obtain ⟨a2, rfl, rfl, rfl, w2⟩ := open_int Try.underlying22 (hval 2 22 v2 rfl rfl) h2
  obtain ⟨a3, rfl, rfl, rfl, w3⟩ := open_int Try.underlying22 (hval 3 22 v3 rfl rfl) h3
  clear hA0 hval0
  simp only [List.append_nil] at hW'
  refine (walk a0 a1 a2 a3 w0 w1 w2 w3 W).mono fun e W' ⟨he, bel⟩ => ?_
  subst he
  exact ⟨_, rfl, _, _, _, [], [], [], hW', (trodAll_cons_mk (shut_bool Try.underlying4 _) trodAll_mk0), (trodAll_cons_mk (shut_int Try.underlying22 w0) (trodAll_cons_mk (shut_int Try.underlying22 w1) (trodAll_cons_mk (shut_int Try.underlying22 w2) (trodAll_cons_mk (shut_int Try.underlying22 w3) trodAll_mk0)))), rfl, bel.frame _, fun h => by cases h⟩

theorem over : Rows.fnWhileClauseSpanOrderedRow.holds Try.pinned (OpenSpec.ofChange Rows.fnWhileClauseSpanOrderedSpec) :=
  OpenClaim.holds_of_wide 8 Try.f8 rfl rfl rfl rfl rfl rfl rfl ⟨rfl, rfl, rfl, rfl, rfl⟩ rfl rfl rfl rfl rfl (by kernel_rfl) Try.func8 (by kernel_rfl)
    (of_decide_eq_true (by kernel_rfl)) (by unfold Func.isWrapper; first | (rw [if_pos (by decide +kernel)]; kernel_rfl) | (rw [if_neg (by decide +kernel)]; exact ⟨rfl, rfl⟩))
    (fun os started H enc _ => lifted os started H enc)

/-- ████ THE STATEMENT ████ -/
theorem proved : Rows.FnWhileClauseSpanOrderedSaid :=
  over
#print axioms proved
end Go.Proofs.Ytknilfihibmgdaa.fnWhileClauseSpanOrdered
