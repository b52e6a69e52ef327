/- Proved here: on a reachable position that is invalid or has a known line, the end of a while clause is four single steps over a block's brace (FnWhileClauseEndIsFourSingleSteps returns true). No conditions. -/
import Derived.Test.YtknilfihibmgdaaRows
import Derived.WalkKit
import Derived.Test.YtknilfihibmgdaaWhile
import Derived.Deep.DeepCutAuto
import Derived.Outline
import Derived.Deep.RegionWith
import Derived.ProofKit
import Derived.Below
import Derived.OpenShut
import Derived.ShutString
namespace Go.Proofs.Ytknilfihibmgdaa.fnWhileClauseEndIsFourSingleSteps
open Go.ChangeShapes Go.WideShapes Go.ChangeAt Go.RowKit
open Go.ChangeMaps (open_string shut_string)
set_option linter.unusedVariables false      -- a walk need not use every 'w<i>' (that an integer argument fits its kind)

theorem own : ownKnob Try.prog.godebug = none := by kernel_rfl

/-! ### STEP 1: THE WALK: the Go text returns true. 'Below w.heap.size w w'': the world has at most new blocks (Derived/RowKit3.lean). Part the cases AHEAD of 'go_enter' where a test parts the walk; take each callee by a contract of your own. -/
/-- what a round of the loop keeps: the clause's position, the present position, and all that was there -/
def LoopS (w : World) (A Q : Nat) (o lc : Int) (k : Nat) (W : World) : Prop :=
  W.cell? ⟨A, 4, none⟩ = some (.int .u32 o) ∧ W.cell? ⟨A, 5, none⟩ = some (.int .u32 lc) ∧ W.cell? ⟨Q, 0, none⟩ = some (.int .u32 (it o lc k).1) ∧ W.cell? ⟨Q, 1, none⟩ = some (.int .u32 (it o lc k).2) ∧
  W.frozen? ⟨Q, 0, none⟩ = false ∧ W.frozen? ⟨Q, 1, none⟩ = false ∧ A ≠ Q ∧ w.heap.size ≤ Q ∧ Below w.heap.size w W
theorem loop_step {w W w1 : World} {A Q : Nat} {o lc : Int} {k : Nat} {x : Obj} (h : LoopS w A Q o lc k W) (hb : Below (W.alloc x).heap.size (W.alloc x) w1) :
    LoopS w A Q o lc (k + 1) ((w1.setCell ⟨Q, 0, none⟩ (.int .u32 (avO (it o lc k).1 (it o lc k).2 1))).setCell ⟨Q, 1, none⟩ (.int .u32 (avL (it o lc k).1 (it o lc k).2 1))) := by
  obtain ⟨h0, h1, h2, h3, h4, h5, h6, h7, h8⟩ := h
  have a0 : w1.cell? ⟨A, 4, none⟩ = some (.int .u32 o) := cell_later hb (kb h0)
  have a1 : w1.cell? ⟨A, 5, none⟩ = some (.int .u32 lc) := cell_later hb (kb h1)
  have q0 : w1.cell? ⟨Q, 0, none⟩ = some (.int .u32 (it o lc k).1) := cell_later hb (kb h2)
  have q1 : w1.cell? ⟨Q, 1, none⟩ = some (.int .u32 (it o lc k).2) := cell_later hb (kb h3)
  have hQ : Q < W.heap.size := World.block_lt_of_cell? W _ h2
  have f0 : w1.frozen? ⟨Q, 0, none⟩ = false := (hb.frozen (p := ⟨Q, 0, none⟩) (by simp only [World.size_alloc]; omega)).trans ((World.frozen?_alloc_past _ _ _ hQ).trans h4)
  have f1 : w1.frozen? ⟨Q, 1, none⟩ = false := (hb.frozen (p := ⟨Q, 1, none⟩) (by simp only [World.size_alloc]; omega)).trans ((World.frozen?_alloc_past _ _ _ hQ).trans h5)
  have B : Below w.heap.size w w1 := (bal h8 x).trans (hb.mono (by have := h8.size; simp only [World.size_alloc]; omega))
  refine ⟨?_, ?_, ?_, ?_, ?_, ?_, h6, h7, (B.setCell h7 _).setCell h7 _⟩
  · rw [World.cell?_setCell_other (h := fun h => h6 (congrArg Addr.block h).symm), World.cell?_setCell_other (h := fun h => h6 (congrArg Addr.block h).symm)]; exact a0
  · rw [World.cell?_setCell_other (h := fun h => h6 (congrArg Addr.block h).symm), World.cell?_setCell_other (h := fun h => h6 (congrArg Addr.block h).symm)]; exact a1
  · go_simp
    rfl
  · go_simp
    rfl
  · rw [World.frozen?_setCell, World.frozen?_setCell]; exact f0
  · rw [World.frozen?_setCell, World.frozen?_setCell]; exact f1
set_option maxHeartbeats 4000000 in
theorem case_bad (o lc : Int) (w : World) (h0 : 0 ≤ o) (h1 : o ≤ 4294967295) (g0 : 0 ≤ lc) (g1 : lc ≤ 4294967295) (hr : reachB o lc = true) (h4 : it o lc 4 = (avO o lc 4, avL o lc 4)) (hv : validB o lc = false) :
    Calls Try.prog 3 #[.int .u32 o, .int .u32 lc] w fun e w' => e = .returned (.bool true) ∧ Below w.heap.size w w' := by
  have HF := Lib.hid h4
  have HI := Lib.hid (it_bd h0 h1 g0 g1)
  go_enter Try.func3, Try.ntmps3
  go_wp2_with (first
    | (go_at_call 11; refine (reach74 _ _ _).mono ?_; rintro e w' ⟨rfl, rfl⟩)
    | (go_at_call 12; refine (valid74 _ _ _).mono ?_; rintro e w' ⟨rfl, rfl⟩)
    | (go_at_call 13; refine (newPos74 _ _ _).mono ?_; rintro e w' ⟨rfl, rfl⟩))
  have hS : LoopS w (w.heap.size + 1 + 1) (w.heap.size + 1 + 1 + 1) o lc 0 ((((w.alloc (posC o lc)).alloc (Obj.cells #[Value.int IntKind.u32 o, Value.int IntKind.u32 lc] 26)).alloc
          (Obj.cells
            #[Value.int IntKind.u32 0, Value.int IntKind.u32 0, Value.int IntKind.u32 0, Value.int IntKind.u32 0,
              Value.int IntKind.u32 o, Value.int IntKind.u32 lc, Value.bool false, Value.slice none 0 0,
              Value.slice none 0 0, Value.slice none 0 0, Value.slice none 0 0]
            32)).alloc
      (Obj.cells #[Value.int IntKind.u32 o, Value.int IntKind.u32 lc] 26)) := by
    refine ⟨by go_simp, by go_simp, by go_simp; rfl, by go_simp; rfl, by go_simp, by go_simp, by omega, by omega, by repeat (first | exact Below.refl _ _ | apply Below.drew | apply bal)⟩
  generalize ((((w.alloc (posC o lc)).alloc (Obj.cells #[Value.int IntKind.u32 o, Value.int IntKind.u32 lc] 26)).alloc
          (Obj.cells
            #[Value.int IntKind.u32 0, Value.int IntKind.u32 0, Value.int IntKind.u32 0, Value.int IntKind.u32 0,
              Value.int IntKind.u32 o, Value.int IntKind.u32 lc, Value.bool false, Value.slice none 0 0,
              Value.slice none 0 0, Value.slice none 0 0, Value.slice none 0 0]
            32)).alloc
      (Obj.cells #[Value.int IntKind.u32 o, Value.int IntKind.u32 lc] 26)) = W0 at *
  generalize w.heap.size + 1 + 1 + 1 = Q at *
  generalize w.heap.size + 1 + 1 = A at *
  go_loopw [8] (fun i wr => ∃ k : Nat, k ≤ 4 ∧ i = .int .i64 k ∧ LoopS w A Q o lc k wr) (fun i _ => 4 - (intOf i).toNat)
  case atStart => exact ⟨0, by omega, rfl, hS⟩
  case round =>
    obtain ⟨k, hk, rfl, hL⟩ := hrel
    have hI := HI.out k
    have HL := Lib.hid hL
    obtain ⟨s0, s1, s2, s3, s4, s5, s6, s7, -⟩ := hL
    by_cases hk4 : k < 4
    · go_wp2_with fail
      go_at_call 14
      refine (blockEnd_any _ _ _ _ (by go_simp) (by go_simp) hI.1.1 hI.2.1 hI.2.2).mono ?_
      rintro e w1 ⟨rfl, hb1⟩
      have HL1 := Lib.hid (loop_step HL.out hb1)
      have f0 : w1.frozen? ⟨Q, 0, none⟩ = false := by have := HL1.out.2.2.2.2.1; rwa [World.frozen?_setCell, World.frozen?_setCell] at this
      have f1 : w1.frozen? ⟨Q, 1, none⟩ = false := by have := HL1.out.2.2.2.2.2.1; rwa [World.frozen?_setCell, World.frozen?_setCell] at this
      have q0 : w1.cell? ⟨Q, 0, none⟩ = some (.int .u32 (it o lc k).1) := cell_later hb1 (kb s2)
      have q1 : w1.cell? ⟨Q, 1, none⟩ = some (.int .u32 (it o lc k).2) := cell_later hb1 (kb s3)
      clear hb1
      go_wp2
      go_roundw
      case rel => exact ⟨k + 1, by omega, by simp, HL1.out⟩
      case measure => simp [intOf]; omega
    · have e4 : k = 4 := by omega
      have t2 : wr.cell? ⟨Q, 0, none⟩ = some (.int .u32 (avO o lc 4)) := by rw [s2, e4, HF.out]
      have t3 : wr.cell? ⟨Q, 1, none⟩ = some (.int .u32 (avL o lc 4)) := by rw [s3, e4, HF.out]
      have HBW := Lib.hid HL.out.2.2.2.2.2.2.2.2
      clear s2 s3 hI HL HI HF e4 s4 s5
      go_wp2_with fail
      go_region_with (go_at_call 15; refine (wcEnd_any _ _ _ _ (by assumption) (by assumption) h0 g0 g1).mono ?_; rintro e w1 ⟨rfl, hb1⟩; have q0 := cell_later hb1 t2; have q1 := cell_later hb1 t3; have HB1 := Lib.hid hb1; clear hb1)
      all_goals
        go_wp2
        go_ret
        refine ⟨by rfl, ?_⟩
        have hB : Below w.heap.size w w1 := by
          exact HBW.out.drew.trans (HB1.out.mono HBW.out.size)
        repeat (first | exact hB | apply Below.drew | apply bal)
set_option maxHeartbeats 4000000 in
theorem case_ok (o lc : Int) (w : World) (h0 : 0 ≤ o) (h1 : o ≤ 4294967295) (g0 : 0 ≤ lc) (g1 : lc ≤ 4294967295) (hr : reachB o lc = true) (h4 : it o lc 4 = (avO o lc 4, avL o lc 4)) (hv : validB o lc = true) (hz : (lc / 16384 == 0) = false) :
    Calls Try.prog 3 #[.int .u32 o, .int .u32 lc] w fun e w' => e = .returned (.bool true) ∧ Below w.heap.size w w' := by
  have HF := Lib.hid h4
  have HI := Lib.hid (it_bd h0 h1 g0 g1)
  go_enter Try.func3, Try.ntmps3
  go_wp2_with (first
    | (go_at_call 11; refine (reach74 _ _ _).mono ?_; rintro e w' ⟨rfl, rfl⟩)
    | (go_at_call 12; refine (valid74 _ _ _).mono ?_; rintro e w' ⟨rfl, rfl⟩)
    | (go_at_call 13; refine (newPos74 _ _ _).mono ?_; rintro e w' ⟨rfl, rfl⟩))
  have hS : LoopS w (w.heap.size + 1 + 1) (w.heap.size + 1 + 1 + 1) o lc 0 ((((w.alloc (posC o lc)).alloc (Obj.cells #[Value.int IntKind.u32 o, Value.int IntKind.u32 lc] 26)).alloc
          (Obj.cells
            #[Value.int IntKind.u32 0, Value.int IntKind.u32 0, Value.int IntKind.u32 0, Value.int IntKind.u32 0,
              Value.int IntKind.u32 o, Value.int IntKind.u32 lc, Value.bool false, Value.slice none 0 0,
              Value.slice none 0 0, Value.slice none 0 0, Value.slice none 0 0]
            32)).alloc
      (Obj.cells #[Value.int IntKind.u32 o, Value.int IntKind.u32 lc] 26)) := by
    refine ⟨by go_simp, by go_simp, by go_simp; rfl, by go_simp; rfl, by go_simp, by go_simp, by omega, by omega, by repeat (first | exact Below.refl _ _ | apply Below.drew | apply bal)⟩
  generalize ((((w.alloc (posC o lc)).alloc (Obj.cells #[Value.int IntKind.u32 o, Value.int IntKind.u32 lc] 26)).alloc
          (Obj.cells
            #[Value.int IntKind.u32 0, Value.int IntKind.u32 0, Value.int IntKind.u32 0, Value.int IntKind.u32 0,
              Value.int IntKind.u32 o, Value.int IntKind.u32 lc, Value.bool false, Value.slice none 0 0,
              Value.slice none 0 0, Value.slice none 0 0, Value.slice none 0 0]
            32)).alloc
      (Obj.cells #[Value.int IntKind.u32 o, Value.int IntKind.u32 lc] 26)) = W0 at *
  generalize w.heap.size + 1 + 1 + 1 = Q at *
  generalize w.heap.size + 1 + 1 = A at *
  go_loopw [8] (fun i wr => ∃ k : Nat, k ≤ 4 ∧ i = .int .i64 k ∧ LoopS w A Q o lc k wr) (fun i _ => 4 - (intOf i).toNat)
  case atStart => exact ⟨0, by omega, rfl, hS⟩
  case round =>
    obtain ⟨k, hk, rfl, hL⟩ := hrel
    have hI := HI.out k
    have HL := Lib.hid hL
    obtain ⟨s0, s1, s2, s3, s4, s5, s6, s7, -⟩ := hL
    by_cases hk4 : k < 4
    · go_wp2_with fail
      go_at_call 14
      refine (blockEnd_any _ _ _ _ (by go_simp) (by go_simp) hI.1.1 hI.2.1 hI.2.2).mono ?_
      rintro e w1 ⟨rfl, hb1⟩
      have HL1 := Lib.hid (loop_step HL.out hb1)
      have f0 : w1.frozen? ⟨Q, 0, none⟩ = false := by have := HL1.out.2.2.2.2.1; rwa [World.frozen?_setCell, World.frozen?_setCell] at this
      have f1 : w1.frozen? ⟨Q, 1, none⟩ = false := by have := HL1.out.2.2.2.2.2.1; rwa [World.frozen?_setCell, World.frozen?_setCell] at this
      have q0 : w1.cell? ⟨Q, 0, none⟩ = some (.int .u32 (it o lc k).1) := cell_later hb1 (kb s2)
      have q1 : w1.cell? ⟨Q, 1, none⟩ = some (.int .u32 (it o lc k).2) := cell_later hb1 (kb s3)
      clear hb1
      go_wp2
      go_roundw
      case rel => exact ⟨k + 1, by omega, by simp, HL1.out⟩
      case measure => simp [intOf]; omega
    · have e4 : k = 4 := by omega
      have t2 : wr.cell? ⟨Q, 0, none⟩ = some (.int .u32 (avO o lc 4)) := by rw [s2, e4, HF.out]
      have t3 : wr.cell? ⟨Q, 1, none⟩ = some (.int .u32 (avL o lc 4)) := by rw [s3, e4, HF.out]
      have HBW := Lib.hid HL.out.2.2.2.2.2.2.2.2
      clear s2 s3 hI HL HI HF e4 s4 s5
      go_wp2_with fail
      go_region_with (go_at_call 15; refine (wcEnd_any _ _ _ _ (by assumption) (by assumption) h0 g0 g1).mono ?_; rintro e w1 ⟨rfl, hb1⟩; have q0 := cell_later hb1 t2; have q1 := cell_later hb1 t3; have HB1 := Lib.hid hb1; clear hb1)
      all_goals
        go_wp2
        go_ret
        refine ⟨by rfl, ?_⟩
        have hB : Below w.heap.size w w1 := by
          exact HBW.out.drew.trans (HB1.out.mono HBW.out.size)
        repeat (first | exact hB | apply Below.drew | apply bal)
theorem walk (a0 : Int) (a1 : Int) (w0 : (Lit.int .u32 a0).wf = true) (w1 : (Lit.int .u32 a1).wf = true) (w : World) :
    Calls Try.prog 3 #[.int .u32 a0, .int .u32 a1] w fun e w' => e = .returned (.bool true) ∧ Below w.heap.size w w' := by
  have b0 := bounds_u32 w0
  have b1 := bounds_u32 w1
  clear w0 w1
  rcases Bool.eq_false_or_eq_true (reachB a0 a1) with hr | hr
  rotate_left
  · go_enter Try.func3, Try.ntmps3
    go_wp2_with (go_at_call 11; refine (reach74 _ _ _).mono ?_; rintro e w' ⟨rfl, rfl⟩)
    go_ret
    exact ⟨rfl, Below.refl _ _⟩
  rcases Bool.eq_false_or_eq_true (validB a0 a1) with hv | hv
  rotate_left
  · exact case_bad a0 a1 w b0.1 b0.2 b1.1 b1.2 hr (it_four b0.1 (.inl hv)) hv
  rcases Bool.eq_false_or_eq_true (a1 / 16384 == 0) with hz | hz
  · go_enter Try.func3, Try.ntmps3
    go_wp2_with (first
      | (go_at_call 11; refine (reach74 _ _ _).mono ?_; rintro e w' ⟨rfl, rfl⟩)
      | (go_at_call 12; refine (valid74 _ _ _).mono ?_; rintro e w' ⟨rfl, rfl⟩))
    go_ret
    exact ⟨rfl, Below.refl _ _⟩
  · have hh : ¬ a1 / 16384 = 0 := by simpa using hz
    exact case_ok a0 a1 w b0.1 b0.2 b1.1 b1.2 hr (it_four b0.1 (.inr (by omega))) hv hz

/-! ### THE ROW's STEP: WRITTEN OUT: LEAVE IT -/
set_option maxRecDepth 100000 in
theorem lifted (os : Os) (started : os.Started) (H : Type) (enc : TypeId × Value → H) :
    ReturnsInHanded {} Try.checked os 3 .any (Rows.fnWhileClauseEndIsFourSingleStepsSpec.pre6 enc Try.prog Try.f3 Rows.fnWhileClauseEndIsFourSingleStepsRow.domain false) (Rows.fnWhileClauseEndIsFourSingleStepsSpec.post enc Try.prog Try.f3 false true false false) := by
  refine returnsInHanded_of_change (C := Try.checked) own started (by kernel_rfl) Try.func3
    (ChangeSpec.witness6 (enc := enc) (C := Try.checked) false ⟨#[], #[.int .u32 0, .int .u32 0], []⟩ 8 (by kernel_rfl) (by kernel_rfl) (by kernel_rfl) (by kernel_rfl)) ?_
  intro W base args ds gs before hval0 hW hcnd _
  have hval : ∀ (j : Nat) t v, Try.f3.params[j]? = some t → args[j]? = some v → Value.okWide Try.prog W .any base t v := hval0
  have hW' := hW
  obtain ⟨p, q, hA0, hV, rfl, hfz, hnd⟩ := hW
  have hA : DataW.TrodAll enc Try.prog W 0 (fun _ => true) true Try.f3.params.toList args.toList ds p := hA0
  rw [Try.params3] at hA hval
  obtain ⟨v0, vs0, d0, ds0, p0, q0, hargs, rfl, rfl, h0, r0⟩ := trodAll_cons hA
  obtain ⟨v1, vs1, d1, ds1, p1, q1, rfl, rfl, rfl, h1, r1⟩ := trodAll_cons r0
  obtain ⟨rfl, rfl, rfl⟩ := trodAll_nil r1
  obtain rfl : args = #[v0, v1] := by cases args; simp_all
  obtain ⟨rfl, rfl⟩ := trodVars_none hV
  obtain ⟨a0, rfl, rfl, rfl, w0⟩ := open_int Try.underlying22 (hval 0 22 v0 rfl rfl) h0
  obtain ⟨a1, rfl, rfl, rfl, w1⟩ := open_int Try.underlying22 (hval 1 22 v1 rfl rfl) h1
  clear hA0 hval0
  simp only [List.append_nil] at hW'
  refine (walk a0 a1 w0 w1 W).mono fun e W' ⟨he, bel⟩ => ?_
  subst he
  exact ⟨_, rfl, _, _, _, [], [], [], hW', (trodAll_cons_mk (shut_bool Try.underlying4 _) trodAll_mk0), (trodAll_cons_mk (shut_int Try.underlying22 w0) (trodAll_cons_mk (shut_int Try.underlying22 w1) trodAll_mk0)), rfl, bel.frame _, fun h => by cases h⟩

theorem over : Rows.fnWhileClauseEndIsFourSingleStepsRow.holds Try.pinned (OpenSpec.ofChange Rows.fnWhileClauseEndIsFourSingleStepsSpec) :=
  OpenClaim.holds_of_wide 3 Try.f3 rfl rfl rfl rfl rfl rfl rfl ⟨rfl, rfl, rfl, rfl, rfl⟩ rfl rfl rfl rfl rfl (by kernel_rfl) Try.func3 (by kernel_rfl)
    (of_decide_eq_true (by kernel_rfl)) (by unfold Func.isWrapper; first | (rw [if_pos (by decide +kernel)]; kernel_rfl) | (rw [if_neg (by decide +kernel)]; exact ⟨rfl, rfl⟩))
    (fun os started H enc _ => lifted os started H enc)

/-- ████ THE STATEMENT ████ -/
theorem proved : Rows.FnWhileClauseEndIsFourSingleStepsSaid :=
  over
#print axioms proved
end Go.Proofs.Ytknilfihibmgdaa.fnWhileClauseEndIsFourSingleSteps
