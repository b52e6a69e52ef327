/- Proved here: of two Indent options the later one decides and BinaryNextLine between them is kept, in either order of the two, all else off (FnIndentLastWins returns true). No conditions. -/
import Derived.Test.YtocahmpkgjpkdaaRows
import Derived.WalkKit
import Derived.Test.YtocahmpkgjpkdaaPr
import Derived.ProofKit
import Derived.Below
import Derived.OpenShut
import Derived.ShutString
namespace Go.Proofs.Ytocahmpkgjpkdaa.fnIndentLastWins
open Go.ChangeShapes Go.WideShapes Go.ChangeAt Go.RowKit
open Go.ChangeMaps (open_string shut_string)
set_option linter.unusedVariables false      -- a walk need not use every 'w<i>' (that an integer argument fits its kind)

theorem own : ownKnob Try.prog.godebug = none := by kernel_rfl

/-! ### STEP 1: THE WALK: the Go text returns true. 'Below w.heap.size w w'': the world has at most new blocks (Derived/RowKit3.lean). Part the cases AHEAD of 'go_enter' where a test parts the walk; take each callee by a contract of your own. -/
open Go.Proofs.Ytocahmpkgjpkdaa.Pr
theorem pr_later {w w' : World} {p : Nat} {ind : Int} {bin swt sr : Bool} (h : PrAt w p ind bin swt sr) (hb : Below w.heap.size w w') : PrAt w' p ind bin swt sr := by
  obtain ⟨h5, h6, h7, h8, h9, h10, h11, h12⟩ := h
  exact ⟨cell_later hb h5, cell_later hb h6, cell_later hb h7, cell_later hb h8, cell_later hb h9, cell_later hb h10, cell_later hb h11, cell_later hb h12⟩
theorem below4 {w w1 : World} {a b c d : Obj} (h : Below ((((w.alloc a).alloc b).alloc c).alloc d).heap.size ((((w.alloc a).alloc b).alloc c).alloc d) w1) : Below w.heap.size w w1 := by
  refine Below.trans (b := ((((w.alloc a).alloc b).alloc c).alloc d)) ?_ (h.mono (by simp only [World.size_alloc]; omega))
  exact ((((Below.refl _ _).alloc (Nat.le_refl _) _).alloc (by simp only [World.size_alloc]; omega) _).alloc (by simp only [World.size_alloc]; omega) _).alloc (by simp only [World.size_alloc]; omega) _
set_option maxRecDepth 100000 in
set_option maxHeartbeats 4000000 in
theorem walk (a0 : Int) (a1 : Int) (a2 : Bool) (w0 : (Lit.int .u64 a0).wf = true) (w1 : (Lit.int .u64 a1).wf = true) (w : World) :
    Calls Try.prog 4 #[.int .u64 a0, .int .u64 a1, .bool a2] w fun e w' => e = .returned (.bool true) ∧ Below w.heap.size w w' := by
  clear w0 w1
  go_enter Try.func4, Try.ntmps4
  go_wp2_with (first | (go_at_call 12; refine (mkIndent _ _).mono ?_; rintro e w' ⟨rfl, rfl⟩) | (go_at_call 13; refine (mkBinaryNextLine _ _).mono ?_; rintro e w' ⟨rfl, rfl⟩))
  refine (np1 (w.heap.size + 1 + 1 + 1) w.heap.size (w.heap.size + 1) (w.heap.size + 1 + 1) a0 a2 a1 _ ?_ ?_ ?_ ?_ ?_ ?_).mono ?_
  · go_simp
  · go_simp
  · go_simp
  · go_simp
  · go_simp
  · go_simp
  rintro e w5 ⟨p5, rfl, hz5, hp5, hb5⟩
  have HB5 := Lib.hid (below4 hb5)
  have HP5 := Lib.hid hp5
  clear hb5 hp5 hz5
  go_wp2_with (first | (go_at_call 12; refine (mkIndent _ _).mono ?_; rintro e w' ⟨rfl, rfl⟩) | (go_at_call 13; refine (mkBinaryNextLine _ _).mono ?_; rintro e w' ⟨rfl, rfl⟩))
  refine (np1 (w5.heap.size + 1 + 1 + 1) w5.heap.size (w5.heap.size + 1) (w5.heap.size + 1 + 1) a1 a2 a0 _ ?_ ?_ ?_ ?_ ?_ ?_).mono ?_
  · go_simp
  · go_simp
  · go_simp
  · go_simp
  · go_simp
  · go_simp
  rintro e w6 ⟨p6, rfl, hz6, hp6, hb6⟩
  have HB6 := Lib.hid (below4 hb6)
  have HP6 := Lib.hid hp6
  clear hb6 hp6 hz6
  go_wp2_with fail
  refine (cfgOf_any _ _ _ _ _ _ (pr_later HP5.out HB6.out)).mono ?_
  rintro e w7 ⟨rfl, hb7⟩
  have HB7 := Lib.hid hb7
  clear hb7
  go_wp2_with fail
  refine (cfgOf_any _ _ _ _ _ _ (pr_later HP6.out HB7.out)).mono ?_
  rintro e w8 ⟨rfl, hb8⟩
  have HB8 := Lib.hid hb8
  clear hb8
  go_wp2
  go_ret
  refine ⟨by simp, ?_⟩
  have b56 := HB5.out.trans (HB6.out.mono HB5.out.size)
  have b57 := b56.trans (HB7.out.mono b56.size)
  exact b57.trans (HB8.out.mono b57.size)

/-! ### THE ROW's STEP: WRITTEN OUT: LEAVE IT -/
set_option maxRecDepth 100000 in
theorem lifted (os : Os) (started : os.Started) (H : Type) (enc : TypeId × Value → H) :
    ReturnsInHanded {} Try.checked os 4 .any (Rows.fnIndentLastWinsSpec.pre6 enc Try.prog Try.f4 Rows.fnIndentLastWinsRow.domain false) (Rows.fnIndentLastWinsSpec.post enc Try.prog Try.f4 false true false false) := by
  refine returnsInHanded_of_change (C := Try.checked) own started (by kernel_rfl) Try.func4
    (ChangeSpec.witness6 (enc := enc) (C := Try.checked) false ⟨#[], #[.int .u64 0, .int .u64 0, .bool false], []⟩ 8 (by kernel_rfl) (by kernel_rfl) (by kernel_rfl) (by kernel_rfl)) ?_
  intro W base args ds gs before hval0 hW hcnd _
  have hval : ∀ (j : Nat) t v, Try.f4.params[j]? = some t → args[j]? = some v → Value.okWide Try.prog W .any base t v := hval0
  have hW' := hW
  obtain ⟨p, q, hA0, hV, rfl, hfz, hnd⟩ := hW
  have hA : DataW.TrodAll enc Try.prog W 0 (fun _ => true) true Try.f4.params.toList args.toList ds p := hA0
  rw [Try.params4] at hA hval
  obtain ⟨v0, vs0, d0, ds0, p0, q0, hargs, rfl, rfl, h0, r0⟩ := trodAll_cons hA
  obtain ⟨v1, vs1, d1, ds1, p1, q1, rfl, rfl, rfl, h1, r1⟩ := trodAll_cons r0
  obtain ⟨v2, vs2, d2, ds2, p2, q2, rfl, rfl, rfl, h2, r2⟩ := trodAll_cons r1
  obtain ⟨rfl, rfl, rfl⟩ := trodAll_nil r2
  obtain rfl : args = #[v0, v1, v2] := by cases args; simp_all
  obtain ⟨rfl, rfl⟩ := trodVars_none hV
  obtain ⟨a0, rfl, rfl, rfl, w0⟩ := open_int Try.underlying28 (hval 0 28 v0 rfl rfl) h0
  obtain ⟨a1, rfl, rfl, rfl, w1⟩ := open_int Try.underlying28 (hval 1 28 v1 rfl rfl) h1
  obtain ⟨a2, rfl, rfl, rfl⟩ := open_bool Try.underlying4 (hval 2 4 v2 rfl rfl) h2
  clear hA0 hval0
  simp only [List.append_nil] at hW'
  refine (walk a0 a1 a2 w0 w1 W).mono fun e W' ⟨he, bel⟩ => ?_
  subst he
  exact ⟨_, rfl, _, _, _, [], [], [], hW', (trodAll_cons_mk (shut_bool Try.underlying4 _) trodAll_mk0), (trodAll_cons_mk (shut_int Try.underlying28 w0) (trodAll_cons_mk (shut_int Try.underlying28 w1) (trodAll_cons_mk (shut_bool Try.underlying4 _) trodAll_mk0))), rfl, bel.frame _, fun h => by cases h⟩

theorem over : Rows.fnIndentLastWinsRow.holds Try.pinned (OpenSpec.ofChange Rows.fnIndentLastWinsSpec) :=
  OpenClaim.holds_of_wide 4 Try.f4 rfl rfl rfl rfl rfl rfl rfl ⟨rfl, rfl, rfl, rfl, rfl⟩ rfl rfl rfl rfl rfl (by kernel_rfl) Try.func4 (by kernel_rfl)
    (of_decide_eq_true (by kernel_rfl)) (by unfold Func.isWrapper; first | (rw [if_pos (by decide +kernel)]; kernel_rfl) | (rw [if_neg (by decide +kernel)]; exact ⟨rfl, rfl⟩))
    (fun os started H enc _ => lifted os started H enc)

/-- ████ THE STATEMENT ████ -/
theorem proved : Rows.FnIndentLastWinsSaid :=
  over
#print axioms proved
end Go.Proofs.Ytocahmpkgjpkdaa.fnIndentLastWins
