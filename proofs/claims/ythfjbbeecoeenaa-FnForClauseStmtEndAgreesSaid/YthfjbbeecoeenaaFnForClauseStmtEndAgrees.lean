/- Proved here: a statement that holds only a for clause ends where the for clause ends and begins where it begins (FnForClauseStmtEndAgrees returns true). No conditions. -/
import Derived.Test.YthfjbbeecoeenaaRows
import Derived.WalkKit
import Derived.Test.YthfjbbeecoeenaaStmt
import Derived.Test.YthfjbbeecoeenaaSlices
import Derived.Lib.Hide
import Derived.ProofKit
import Derived.Below
import Derived.OpenShut
import Derived.ShutString
namespace Go.Proofs.Ythfjbbeecoeenaa.fnForClauseStmtEndAgrees
open Go.ChangeShapes Go.WideShapes Go.ChangeAt Go.RowKit
open Go.ChangeMaps (open_string shut_string)
set_option linter.unusedVariables false      -- a walk need not use every 'w<i>' (that an integer argument fits its kind)

theorem own : ownKnob Try.prog.godebug = none := by kernel_rfl

/-! ### STEP 1: THE WALK: the Go text returns true. 'Below w.heap.size w w'': the world has at most new blocks (Derived/RowKit3.lean). Part the cases AHEAD of 'go_enter' where a test parts the walk; take each callee by a contract of your own. -/
/-- line and column fit -/
def LC (l c : Int) : Prop := l ≤ 262143 ∧ c ≤ 16383
theorem LC.mk {l c : Int} (h : ¬ 262143 < l) (g : ¬ 16383 < c) : LC l c := ⟨by omega, by omega⟩
set_option maxHeartbeats 1000000 in
theorem reach_any (o l c : Int) (w : World) : Calls Try.prog 11 #[.int .u32 o, .int .u32 l, .int .u32 c] w (AnyBool (LC l c) w) := by
  by_cases hl : 262143 < l
  · go_enter Try.func11, Try.ntmps11
    go_wp2
    go_ret
    exact ⟨false, rfl, (fun h => by cases h), rfl⟩
  by_cases hc : 16383 < c
  · go_enter Try.func11, Try.ntmps11
    go_wp2
    go_ret
    exact ⟨false, rfl, (fun h => by cases h), rfl⟩
  have HLC := Lib.hid (LC.mk hl hc)
  by_cases ho : o ≤ 4294967284
  · go_enter Try.func11, Try.ntmps11
    go_wp2
    go_ret
    exact ⟨true, rfl, (fun _ => HLC.out), rfl⟩
  rcases Bool.eq_false_or_eq_true (o == 4294967285) with z0 | z0 <;> rcases Bool.eq_false_or_eq_true (l == 0) with z1 | z1 <;> rcases Bool.eq_false_or_eq_true (c == 0) with z2 | z2
  all_goals
    go_enter Try.func11, Try.ntmps11
    go_wp2
    go_ret
    exact ⟨_, rfl, (fun _ => HLC.out), rfl⟩
/-- the statement in block s, the for clause in block b, and all that was there -/
def KS (w0 : World) (s b : Nat) (so sl o lc : Int) (neg br : Bool) (W : World) : Prop :=
  StAt W s b so sl neg ∧ FcAt W b o lc br ∧ W.cell? ⟨b, 0, none⟩ = some (.int .u32 so) ∧ W.cell? ⟨b, 1, none⟩ = some (.int .u32 sl) ∧ Below w0.heap.size w0 W
theorem KS.step {w0 : World} {s b : Nat} {so sl o lc : Int} {neg br : Bool} {W W' : World} (h : KS w0 s b so sl o lc neg br W) (hb : Below W.heap.size W W') : KS w0 s b so sl o lc neg br W' := by
  obtain ⟨⟨a1, a2, a3, a4, a5, a6, a7⟩, ⟨c1, c2, c3⟩, d1, d2, e⟩ := h
  exact ⟨⟨cell_later hb a1, cell_later hb a2, cell_later hb a3, cell_later hb a4, cell_later hb a5, cell_later hb a6, cell_later hb a7⟩, ⟨cell_later hb c1, cell_later hb c2, cell_later hb c3⟩, cell_later hb d1, cell_later hb d2, e.trans (hb.mono e.size)⟩
set_option maxRecDepth 100000 in
set_option maxHeartbeats 4000000 in
theorem walk (a0 : Int) (a1 : Int) (a2 : Int) (a3 : Int) (a4 : Int) (a5 : Int) (a6 : Bool) (a7 : Bool) (w0 : (Lit.int .u32 a0).wf = true) (w1 : (Lit.int .u32 a1).wf = true) (w2 : (Lit.int .u32 a2).wf = true) (w3 : (Lit.int .u32 a3).wf = true) (w4 : (Lit.int .u32 a4).wf = true) (w5 : (Lit.int .u32 a5).wf = true) (w : World) :
    Calls Try.prog 4 #[.int .u32 a0, .int .u32 a1, .int .u32 a2, .int .u32 a3, .int .u32 a4, .int .u32 a5, .bool a6, .bool a7] w fun e w' => e = .returned (.bool true) ∧ Below w.heap.size w w' := by
  have b0 := bounds_u32 w0
  have b1 := bounds_u32 w1
  have b2 := bounds_u32 w2
  have b3 := bounds_u32 w3
  have b4 := bounds_u32 w4
  have b5 := bounds_u32 w5
  clear w0 w1 w2 w3 w4 w5
  have tok1 : True := trivial
  have tok2 : True := trivial
  go_enter Try.func4, Try.ntmps4
  go_upto_region 7 with (first
    | (have _t := tok1; go_at_call 11; refine (reach_any _ _ _ _).mono ?_; rintro e w' ⟨x, rfl, hx, rfl⟩; have HX1 := Lib.hid hx; clear hx _t tok1; cases x)
    | (go_at_call 11; refine (reach_any _ _ _ _).mono ?_; rintro e w' ⟨x, rfl, hx, rfl⟩; have HX2 := Lib.hid hx; clear hx; cases x)
    | (have _t := tok2; go_at_call 12; refine (newPos98 a0 a1 a2 _ b1.1 (HX1.out rfl).1 b2.1 (HX1.out rfl).2).mono ?_; rintro e w' ⟨rfl, rfl⟩; clear _t tok2)
    | (go_at_call 12; refine (newPos98 a3 a4 a5 _ b4.1 (HX2.out rfl).1 b5.1 (HX2.out rfl).2).mono ?_; rintro e w' ⟨rfl, rfl⟩)
    | (go_at_call 13; refine (stmtOf_any _ _ _ _ _).mono ?_; rintro e w1 ⟨s, rfl, hst, hb1⟩
       have f4 : w1.cell? ⟨w.heap.size + 1 + 1 + 1 + 1, 4, none⟩ = some (.int .u32 a3) := cell_later hb1 (by go_simp)
       have f5 : w1.cell? ⟨w.heap.size + 1 + 1 + 1 + 1, 5, none⟩ = some (.int .u32 (a4 * 16384 + a5)) := cell_later hb1 (by go_simp)
       have f7 : w1.cell? ⟨w.heap.size + 1 + 1 + 1 + 1, 7, none⟩ = some (.bool a6) := cell_later hb1 (by go_simp)
       have f0 : w1.cell? ⟨w.heap.size + 1 + 1 + 1 + 1, 0, none⟩ = some (.int .u32 a0) := cell_later hb1 (by go_simp)
       have f1 : w1.cell? ⟨w.heap.size + 1 + 1 + 1 + 1, 1, none⟩ = some (.int .u32 (a1 * 16384 + a2)) := cell_later hb1 (by go_simp)
       have HB1 := Lib.hid hb1
       have HST := Lib.hid hst; clear hb1 hst))
  all_goals try (go_ret; exact ⟨rfl, Below.refl _ _⟩)
  have HK : Hid (KS w s (w.heap.size + 1 + 1 + 1 + 1) a0 (a1 * 16384 + a2) a3 (a4 * 16384 + a5) a7 a6 w1) := by
    refine ⟨HST.out, ⟨f4, f5, f7⟩, f0, f1, Below.trans ?_ (HB1.out.mono (by simp only [World.size_alloc]; omega))⟩
    repeat (first | exact Below.refl _ _ | apply Below.drew | apply bal)
  have p1 : 0 ≤ a1 * 16384 + a2 := by omega
  have l1 := HX1.out rfl
  have l2 := HX2.out rfl
  have p2 : a1 * 16384 + a2 ≤ 4294967295 := by have := l1.1; have := l1.2; omega
  have p3 : 0 ≤ a4 * 16384 + a5 := by omega
  have p4 : a4 * 16384 + a5 ≤ 4294967295 := by have := l2.1; have := l2.2; omega
  clear f0 f1 f4 f5 f7 HB1 HST l1 l2
  generalize w.heap.size + 1 + 1 + 1 + 1 = b at *
  go_wp2_with (first
    | (go_at_call 14; refine (stEnd_any _ _ _ _ _ _ _ _ _ HK.out.1 HK.out.2.1 b0.1 p1 p2 b3.1 p3 p4).mono ?_; rintro e w' ⟨rfl, hb⟩; replace HK := Lib.hid (HK.out.step hb); clear hb)
    | (go_at_call 15; refine (fcEnd_any _ _ _ _ _ HK.out.2.1 b3.1 p3 p4).mono ?_; rintro e w' ⟨rfl, hb⟩; replace HK := Lib.hid (HK.out.step hb); clear hb)
    | (go_at_call 16; refine (stPos_any _ _ _ _ _ _ HK.out.1).mono ?_; rintro e w' ⟨rfl, hb⟩; replace HK := Lib.hid (HK.out.step hb); clear hb)
    | (go_at_call 17; refine (fcPos_any _ _ _ _ HK.out.2.2.1 HK.out.2.2.2.1).mono ?_; rintro e w' ⟨rfl, hb⟩; replace HK := Lib.hid (HK.out.step hb); clear hb))
  go_ret
  exact ⟨by first | rfl | simp, HK.out.2.2.2.2⟩

/-! ### THE ROW's STEP: WRITTEN OUT: LEAVE IT -/
set_option maxRecDepth 100000 in
theorem lifted (os : Os) (started : os.Started) (H : Type) (enc : TypeId × Value → H) :
    ReturnsInHanded {} Try.checked os 4 .any (Rows.fnForClauseStmtEndAgreesSpec.pre6 enc Try.prog Try.f4 Rows.fnForClauseStmtEndAgreesRow.domain false) (Rows.fnForClauseStmtEndAgreesSpec.post enc Try.prog Try.f4 false true false false) := by
  refine returnsInHanded_of_change (C := Try.checked) own started (by kernel_rfl) Try.func4
    (ChangeSpec.witness6 (enc := enc) (C := Try.checked) false ⟨#[], #[.int .u32 0, .int .u32 0, .int .u32 0, .int .u32 0, .int .u32 0, .int .u32 0, .bool false, .bool false], []⟩ 8 (by kernel_rfl) (by kernel_rfl) (by kernel_rfl) (by kernel_rfl)) ?_
  intro W base args ds gs before hval0 hW hcnd _
  have hval : ∀ (j : Nat) t v, Try.f4.params[j]? = some t → args[j]? = some v → Value.okWide Try.prog W .any base t v := hval0
  have hW' := hW
  obtain ⟨p, q, hA0, hV, rfl, hfz, hnd⟩ := hW
  have hA : DataW.TrodAll enc Try.prog W 0 (fun _ => true) true Try.f4.params.toList args.toList ds p := hA0
  rw [Try.params4] at hA hval
  obtain ⟨v0, vs0, d0, ds0, p0, q0, hargs, rfl, rfl, h0, r0⟩ := trodAll_cons hA
  obtain ⟨v1, vs1, d1, ds1, p1, q1, rfl, rfl, rfl, h1, r1⟩ := trodAll_cons r0
  obtain ⟨v2, vs2, d2, ds2, p2, q2, rfl, rfl, rfl, h2, r2⟩ := trodAll_cons r1
  obtain ⟨v3, vs3, d3, ds3, p3, q3, rfl, rfl, rfl, h3, r3⟩ := trodAll_cons r2
  obtain ⟨v4, vs4, d4, ds4, p4, q4, rfl, rfl, rfl, h4, r4⟩ := trodAll_cons r3
  obtain ⟨v5, vs5, d5, ds5, p5, q5, rfl, rfl, rfl, h5, r5⟩ := trodAll_cons r4
  obtain ⟨v6, vs6, d6, ds6, p6, q6, rfl, rfl, rfl, h6, r6⟩ := trodAll_cons r5
  obtain ⟨v7, vs7, d7, ds7, p7, q7, rfl, rfl, rfl, h7, r7⟩ := trodAll_cons r6
  obtain ⟨rfl, rfl, rfl⟩ := trodAll_nil r7
  obtain rfl : args = #[v0, v1, v2, v3, v4, v5, v6, v7] := by cases args; simp_all
  obtain ⟨rfl, rfl⟩ := trodVars_none hV
  obtain ⟨a0, rfl, rfl, rfl, w0⟩ := open_int Try.underlying31 (hval 0 31 v0 rfl rfl) h0
  obtain ⟨a1, rfl, rfl, rfl, w1⟩ := open_int Try.underlying31 (hval 1 31 v1 rfl rfl) h1
  obtain ⟨a2, rfl, rfl, rfl, w2⟩ := open_int Try.underlying31 (hval 2 31 v2 rfl rfl) h2
  obtain ⟨a3, rfl, rfl, rfl, w3⟩ := open_int Try.underlying31 (hval 3 31 v3 rfl rfl) h3
  obtain ⟨a4, rfl, rfl, rfl, w4⟩ := open_int Try.underlying31 (hval 4 31 v4 rfl rfl) h4
  obtain ⟨a5, rfl, rfl, rfl, w5⟩ := open_int Try.underlying31 (hval 5 31 v5 rfl rfl) h5
  obtain ⟨a6, rfl, rfl, rfl⟩ := open_bool Try.underlying4 (hval 6 4 v6 rfl rfl) h6
  obtain ⟨a7, rfl, rfl, rfl⟩ := open_bool Try.underlying4 (hval 7 4 v7 rfl rfl) h7
  clear hA0 hval0
  simp only [List.append_nil] at hW'
  refine (walk a0 a1 a2 a3 a4 a5 a6 a7 w0 w1 w2 w3 w4 w5 W).mono fun e W' ⟨he, bel⟩ => ?_
  subst he
  exact ⟨_, rfl, _, _, _, [], [], [], hW', (trodAll_cons_mk (shut_bool Try.underlying4 _) trodAll_mk0), (trodAll_cons_mk (shut_int Try.underlying31 w0) (trodAll_cons_mk (shut_int Try.underlying31 w1) (trodAll_cons_mk (shut_int Try.underlying31 w2) (trodAll_cons_mk (shut_int Try.underlying31 w3) (trodAll_cons_mk (shut_int Try.underlying31 w4) (trodAll_cons_mk (shut_int Try.underlying31 w5) (trodAll_cons_mk (shut_bool Try.underlying4 _) (trodAll_cons_mk (shut_bool Try.underlying4 _) trodAll_mk0)))))))), rfl, bel.frame _, fun h => by cases h⟩

theorem over : Rows.fnForClauseStmtEndAgreesRow.holds Try.pinned (OpenSpec.ofChange Rows.fnForClauseStmtEndAgreesSpec) :=
  OpenClaim.holds_of_wide 4 Try.f4 rfl rfl rfl rfl rfl rfl rfl ⟨rfl, rfl, rfl, rfl, rfl⟩ rfl rfl rfl rfl rfl (by kernel_rfl) Try.func4 (by kernel_rfl)
    (of_decide_eq_true (by kernel_rfl)) (by unfold Func.isWrapper; first | (rw [if_pos (by decide +kernel)]; kernel_rfl) | (rw [if_neg (by decide +kernel)]; exact ⟨rfl, rfl⟩))
    (fun os started H enc _ => lifted os started H enc)

/-- ████ THE STATEMENT ████ -/
theorem proved : Rows.FnForClauseStmtEndAgreesSaid :=
  over
#print axioms proved
end Go.Proofs.Ythfjbbeecoeenaa.fnForClauseStmtEndAgrees
