/- Proved here: SwitchCaseIndent, SpaceRedirects and Indent give the same configuration in either order, all else off (FnSwitchCaseIndentOrderFree returns true). No conditions. -/
import Derived.Test.YtocahmpkgjpkdaaRows
import Derived.WalkKit
import Derived.Test.YtocahmpkgjpkdaaPr
import Derived.Deep.RegionHeld3
import Derived.ProofKit
import Derived.Below
import Derived.OpenShut
import Derived.ShutString
namespace Go.Proofs.Ytocahmpkgjpkdaa.fnSwitchCaseIndentOrderFree
open Go.ChangeShapes Go.WideShapes Go.ChangeAt Go.RowKit
open Go.ChangeMaps (open_string shut_string)
set_option linter.unusedVariables false      -- a walk need not use every 'w<i>' (that an integer argument fits its kind)

theorem own : ownKnob Try.prog.godebug = none := by kernel_rfl

/-! ### STEP 1: THE WALK: the Go text returns true. 'Below w.heap.size w w'': the world has at most new blocks (Derived/RowKit3.lean). Part the cases AHEAD of 'go_enter' where a test parts the walk; take each callee by a contract of your own. -/
open Go.Proofs.Ytocahmpkgjpkdaa.Pr
theorem pr_later {w w' : World} {p : Nat} {ind : Int} {bin swt sr : Bool} (h : PrAt w p ind bin swt sr) (hb : Below w.heap.size w w') : PrAt w' p ind bin swt sr := by
  obtain ⟨h5, h6, h7, h8, h9, h10, h11, h12⟩ := h
  exact ⟨cell_later hb h5, cell_later hb h6, cell_later hb h7, cell_later hb h8, cell_later hb h9, cell_later hb h10, cell_later hb h11, cell_later hb h12⟩
theorem below4 {w w1 : World} {a b c d : Obj} (h : Below ((((w.alloc a).alloc b).alloc c).alloc d).heap.size ((((w.alloc a).alloc b).alloc c).alloc d) w1) : Below w.heap.size w w1 := by
  refine Below.trans (b := ((((w.alloc a).alloc b).alloc c).alloc d)) ?_ (h.mono (by simp only [World.size_alloc]; omega))
  exact ((((Below.refl _ _).alloc (Nat.le_refl _) _).alloc (by simp only [World.size_alloc]; omega) _).alloc (by simp only [World.size_alloc]; omega) _).alloc (by simp only [World.size_alloc]; omega) _
/-- what the last statement keeps: the wanted configuration, the two printers, and all that was there -/
def SwS (w : World) (q p5 p6 : Nat) (n : Int) (e s : Bool) (W : World) : Prop :=
  W.cell? ⟨q, 0, none⟩ = some (.int .u64 n) ∧ W.cell? ⟨q, 1, none⟩ = some (.bool false) ∧ W.cell? ⟨q, 2, none⟩ = some (.bool e) ∧ W.cell? ⟨q, 3, none⟩ = some (.bool s) ∧
  W.cell? ⟨q, 4, none⟩ = some (.bool false) ∧ W.cell? ⟨q, 5, none⟩ = some (.bool false) ∧ W.cell? ⟨q, 6, none⟩ = some (.bool false) ∧ W.cell? ⟨q, 7, none⟩ = some (.bool false) ∧
  PrAt W p5 n false e s ∧ PrAt W p6 n false e s ∧ Below w.heap.size w W
theorem sw_drew {w W : World} {q p5 p6 : Nat} {n : Int} {e s : Bool} (h : SwS w q p5 p6 n e s W) : SwS w q p5 p6 n e s W.drew :=
  ⟨h.1, h.2.1, h.2.2.1, h.2.2.2.1, h.2.2.2.2.1, h.2.2.2.2.2.1, h.2.2.2.2.2.2.1, h.2.2.2.2.2.2.2.1, h.2.2.2.2.2.2.2.2.1, h.2.2.2.2.2.2.2.2.2.1, h.2.2.2.2.2.2.2.2.2.2.drew⟩
theorem sw_below {w W W' : World} {q p5 p6 : Nat} {n : Int} {e s : Bool} (hb : Below W.heap.size W W') (h : SwS w q p5 p6 n e s W) : SwS w q p5 p6 n e s W' := by
  obtain ⟨h0, h1, h2, h3, h4, h5, h6, h7, k5, k6, hB⟩ := h
  exact ⟨cell_later hb h0, cell_later hb h1, cell_later hb h2, cell_later hb h3, cell_later hb h4, cell_later hb h5, cell_later hb h6, cell_later hb h7, pr_later k5 hb, pr_later k6 hb, hB.trans (hb.mono hB.size)⟩
set_option maxRecDepth 100000 in
set_option maxHeartbeats 4000000 in
theorem walk (a0 : Bool) (a1 : Bool) (a2 : Int) (w2 : (Lit.int .u64 a2).wf = true) (w : World) :
    Calls Try.prog 5 #[.bool a0, .bool a1, .int .u64 a2] w fun e w' => e = .returned (.bool true) ∧ Below w.heap.size w w' := by
  clear w2
  go_enter Try.func5, Try.ntmps5
  go_wp2_with (first | (go_at_call 12; refine (mkIndent _ _).mono ?_; rintro e w' ⟨rfl, rfl⟩) | (go_at_call 15; refine (mkSwitchCaseIndent _ _).mono ?_; rintro e w' ⟨rfl, rfl⟩) | (go_at_call 16; refine (mkSpaceRedirects _ _).mono ?_; rintro e w' ⟨rfl, rfl⟩))
  refine (np2 (w.heap.size + 1 + 1 + 1) w.heap.size (w.heap.size + 1) (w.heap.size + 1 + 1) a0 a1 a2 _ ?_ ?_ ?_ ?_ ?_ ?_).mono ?_
  · go_simp
  · go_simp
  · go_simp
  · go_simp
  · go_simp
  · go_simp
  rintro e w5 ⟨p5, rfl, hz5, hp5, hb5⟩
  have HB5 := Lib.hid (below4 hb5)
  have HP5 := Lib.hid hp5
  clear hb5 hp5 hz5
  go_wp2_with (first | (go_at_call 12; refine (mkIndent _ _).mono ?_; rintro e w' ⟨rfl, rfl⟩) | (go_at_call 15; refine (mkSwitchCaseIndent _ _).mono ?_; rintro e w' ⟨rfl, rfl⟩) | (go_at_call 16; refine (mkSpaceRedirects _ _).mono ?_; rintro e w' ⟨rfl, rfl⟩))
  refine (np3 (w5.heap.size + 1 + 1 + 1) w5.heap.size (w5.heap.size + 1) (w5.heap.size + 1 + 1) a2 a1 a0 _ ?_ ?_ ?_ ?_ ?_ ?_).mono ?_
  · go_simp
  · go_simp
  · go_simp
  · go_simp
  · go_simp
  · go_simp
  rintro e w6 ⟨p6, rfl, hz6, hp6, hb6⟩
  have HB6 := Lib.hid (below4 hb6)
  have HP6 := Lib.hid hp6
  clear hb6 hp6 hz6
  go_wp2_with fail
  have hS : SwS w w6.heap.size p5 p6 a2 a0 a1 (w6.alloc (.cells #[.int .u64 a2, .bool false, .bool a0, .bool a1, .bool false, .bool false, .bool false, .bool false] 36)) := by
    have hal : Below w6.heap.size w6 (w6.alloc (.cells #[.int .u64 a2, .bool false, .bool a0, .bool a1, .bool false, .bool false, .bool false, .bool false] 36)) := (Below.refl _ _).alloc (Nat.le_refl _) _
    have b56 := HB5.out.trans (HB6.out.mono HB5.out.size)
    refine ⟨?_, ?_, ?_, ?_, ?_, ?_, ?_, ?_, pr_later (pr_later HP5.out HB6.out) hal, pr_later HP6.out hal, b56.trans (hal.mono b56.size)⟩ <;> go_simp
  clear HB5 HB6 HP5 HP6
  generalize (w6.alloc (.cells #[.int .u64 a2, .bool false, .bool a0, .bool a1, .bool false, .bool false, .bool false, .bool false] 36)) = W at *
  generalize w6.heap.size = q at *
  have hS' := hS
  obtain ⟨h0, h1, h2, h3, h4, h5, h6, h7, k5, k6, hB⟩ := hS'
  go_region_held3 (fun W => W.cell? ⟨q, 0, none⟩ = some (.int .u64 a2) ∧ W.cell? ⟨q, 1, none⟩ = some (.bool false) ∧ W.cell? ⟨q, 2, none⟩ = some (.bool a0) ∧ W.cell? ⟨q, 3, none⟩ = some (.bool a1) ∧
      W.cell? ⟨q, 4, none⟩ = some (.bool false) ∧ W.cell? ⟨q, 5, none⟩ = some (.bool false) ∧ W.cell? ⟨q, 6, none⟩ = some (.bool false) ∧ W.cell? ⟨q, 7, none⟩ = some (.bool false) ∧
      PrAt W p5 a2 false a0 a1 ∧ PrAt W p6 a2 false a0 a1 ∧ Below w.heap.size w W)
    (first | exact sw_drew hS | (go_split_ands; exact sw_below ‹_› ⟨‹_›, ‹_›, ‹_›, ‹_›, ‹_›, ‹_›, ‹_›, ‹_›, ‹_›, ‹_›, ‹_›⟩))
    (first | (go_at_call 14; go_split_ands; refine (cfgOf_any _ _ _ _ _ _ ‹_›).mono ?_; rintro e w7 ⟨rfl, hb7⟩))
  all_goals
    go_wp2
    go_ret
    exact ⟨by simp, by go_split_ands; assumption⟩

/-! ### THE ROW's STEP: WRITTEN OUT: LEAVE IT -/
set_option maxRecDepth 100000 in
theorem lifted (os : Os) (started : os.Started) (H : Type) (enc : TypeId × Value → H) :
    ReturnsInHanded {} Try.checked os 5 .any (Rows.fnSwitchCaseIndentOrderFreeSpec.pre6 enc Try.prog Try.f5 Rows.fnSwitchCaseIndentOrderFreeRow.domain false) (Rows.fnSwitchCaseIndentOrderFreeSpec.post enc Try.prog Try.f5 false true false false) := by
  refine returnsInHanded_of_change (C := Try.checked) own started (by kernel_rfl) Try.func5
    (ChangeSpec.witness6 (enc := enc) (C := Try.checked) false ⟨#[], #[.bool false, .bool false, .int .u64 0], []⟩ 8 (by kernel_rfl) (by kernel_rfl) (by kernel_rfl) (by kernel_rfl)) ?_
  intro W base args ds gs before hval0 hW hcnd _
  have hval : ∀ (j : Nat) t v, Try.f5.params[j]? = some t → args[j]? = some v → Value.okWide Try.prog W .any base t v := hval0
  have hW' := hW
  obtain ⟨p, q, hA0, hV, rfl, hfz, hnd⟩ := hW
  have hA : DataW.TrodAll enc Try.prog W 0 (fun _ => true) true Try.f5.params.toList args.toList ds p := hA0
  rw [Try.params5] at hA hval
  obtain ⟨v0, vs0, d0, ds0, p0, q0, hargs, rfl, rfl, h0, r0⟩ := trodAll_cons hA
  obtain ⟨v1, vs1, d1, ds1, p1, q1, rfl, rfl, rfl, h1, r1⟩ := trodAll_cons r0
  obtain ⟨v2, vs2, d2, ds2, p2, q2, rfl, rfl, rfl, h2, r2⟩ := trodAll_cons r1
  obtain ⟨rfl, rfl, rfl⟩ := trodAll_nil r2
  obtain rfl : args = #[v0, v1, v2] := by cases args; simp_all
  obtain ⟨rfl, rfl⟩ := trodVars_none hV
  obtain ⟨a0, rfl, rfl, rfl⟩ := open_bool Try.underlying4 (hval 0 4 v0 rfl rfl) h0
  obtain ⟨a1, rfl, rfl, rfl⟩ := open_bool Try.underlying4 (hval 1 4 v1 rfl rfl) h1
  obtain ⟨a2, rfl, rfl, rfl, w2⟩ := open_int Try.underlying28 (hval 2 28 v2 rfl rfl) h2
  clear hA0 hval0
  simp only [List.append_nil] at hW'
  refine (walk a0 a1 a2 w2 W).mono fun e W' ⟨he, bel⟩ => ?_
  subst he
  exact ⟨_, rfl, _, _, _, [], [], [], hW', (trodAll_cons_mk (shut_bool Try.underlying4 _) trodAll_mk0), (trodAll_cons_mk (shut_bool Try.underlying4 _) (trodAll_cons_mk (shut_bool Try.underlying4 _) (trodAll_cons_mk (shut_int Try.underlying28 w2) trodAll_mk0))), rfl, bel.frame _, fun h => by cases h⟩

theorem over : Rows.fnSwitchCaseIndentOrderFreeRow.holds Try.pinned (OpenSpec.ofChange Rows.fnSwitchCaseIndentOrderFreeSpec) :=
  OpenClaim.holds_of_wide 5 Try.f5 rfl rfl rfl rfl rfl rfl rfl ⟨rfl, rfl, rfl, rfl, rfl⟩ rfl rfl rfl rfl rfl (by kernel_rfl) Try.func5 (by kernel_rfl)
    (of_decide_eq_true (by kernel_rfl)) (by unfold Func.isWrapper; first | (rw [if_pos (by decide +kernel)]; kernel_rfl) | (rw [if_neg (by decide +kernel)]; exact ⟨rfl, rfl⟩))
    (fun os started H enc _ => lifted os started H enc)

/-- ████ THE STATEMENT ████ -/
theorem proved : Rows.FnSwitchCaseIndentOrderFreeSaid :=
  over
#print axioms proved
end Go.Proofs.Ytocahmpkgjpkdaa.fnSwitchCaseIndentOrderFree
