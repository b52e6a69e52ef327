/- Proved here: for every offset, line and column, rebuilding the position that NewPos gave from its own Offset, Line and Col gives the same position (FnPosReencodeFixedPoint returns true). No conditions. -/
import Derived.Test.YtmojheonollpeaaRows
import Derived.WalkKit
import Derived.Test.YtmojheonollpeaaPos
import Derived.Deep.RegionHeld3
import Derived.ProofKit
import Derived.Below
import Derived.OpenShut
import Derived.ShutString
namespace Go.Proofs.Ytmojheonollpeaa.fnPosReencodeFixedPoint
open Go.ChangeShapes Go.WideShapes Go.ChangeAt Go.RowKit
open Go.ChangeMaps (open_string shut_string)
set_option linter.unusedVariables false      -- a walk need not use every 'w<i>' (that an integer argument fits its kind)

theorem own : ownKnob Try.prog.godebug = none := by kernel_rfl

/-! ### STEP 1: THE WALK: the Go text returns true. 'Below w.heap.size w w'': the world has at most new blocks (Derived/RowKit3.lean). Part the cases AHEAD of 'go_enter' where a test parts the walk; take each callee by a contract of your own. -/
set_option maxHeartbeats 1000000 in
theorem walk (a0 : Int) (a1 : Int) (a2 : Int) (w0 : (Lit.int .u64 a0).wf = true) (w1 : (Lit.int .u64 a1).wf = true) (w2 : (Lit.int .u64 a2).wf = true) (w : World) :
    Calls Try.prog 4 #[.int .u64 a0, .int .u64 a1, .int .u64 a2] w fun e w' => e = .returned (.bool true) ∧ Below w.heap.size w w' := by
  have b0 : 0 ≤ a0 := (bounds_u64 w0).1
  have b1 : 0 ≤ a1 := (bounds_u64 w1).1
  have b2 : 0 ≤ a2 := (bounds_u64 w2).1
  have k0 := clampO_bd a0 b0
  have k1 := packLC_bd a1 a2 b1 b2
  clear w0 w1 w2
  go_enter Try.func4, Try.ntmps4
  go_wp2_with (go_at_call 11; refine (newPos_any _ _ _ _ b0 b1 b2).mono ?_; rintro e w1 ⟨rfl, rfl⟩)
  generalize clampO a0 = O at *
  generalize packLC a1 a2 = L at *
  have hb0 : ((w.alloc (posC O L)).alloc (Obj.cells #[Value.int IntKind.u32 O, Value.int IntKind.u32 L] 29)).cell? ⟨w.heap.size + 1, 0, none⟩ = some (.int .u32 O) := by simp
  have hb1 : ((w.alloc (posC O L)).alloc (Obj.cells #[Value.int IntKind.u32 O, Value.int IntKind.u32 L] 29)).cell? ⟨w.heap.size + 1, 1, none⟩ = some (.int .u32 L) := by simp
  have e1 : clampO O = O := clampO_le k0.2
  have e2 : packLC (L / 16384) (L % 16384) = L := packLC_self L k1.1 k1.2
  go_region_held3 (fun w' => w'.cell? ⟨w.heap.size + 1, 0, none⟩ = some (.int .u32 O) ∧ w'.cell? ⟨w.heap.size + 1, 1, none⟩ = some (.int .u32 L))
    (refine ⟨?_, ?_⟩ <;> (apply kd; repeat (first | exact hb0 | exact hb1 | apply kb)))
    (first
      | (go_at_call 12; refine (offset_in _ _ _ (by omega) (by omega)).mono ?_; rintro e w3 ⟨rfl, rfl⟩)
      | (go_at_call 13; refine (line_any _ _ _ (by omega) (by omega)).mono ?_; rintro e w3 ⟨rfl, rfl⟩)
      | (go_at_call 14; refine (col_any _ _ _ (by omega) (by omega)).mono ?_; rintro e w3 ⟨rfl, rfl⟩)
      | (go_at_call 11; refine (newPos_any _ _ _ _ (by omega) (by omega) (by omega)).mono ?_; rintro e w3 ⟨rfl, rfl⟩))
  all_goals
    go_wp2
    go_ret
    exact ⟨rfl, by repeat (first | exact Below.refl _ _ | apply Below.drew | apply bal)⟩

/-! ### THE ROW's STEP: WRITTEN OUT: LEAVE IT -/
set_option maxRecDepth 100000 in
theorem lifted (os : Os) (started : os.Started) (H : Type) (enc : TypeId × Value → H) :
    ReturnsInHanded {} Try.checked os 4 .any (Rows.fnPosReencodeFixedPointSpec.pre6 enc Try.prog Try.f4 Rows.fnPosReencodeFixedPointRow.domain false) (Rows.fnPosReencodeFixedPointSpec.post enc Try.prog Try.f4 false true false false) := by
  refine returnsInHanded_of_change (C := Try.checked) own started (by kernel_rfl) Try.func4
    (ChangeSpec.witness6 (enc := enc) (C := Try.checked) false ⟨#[], #[.int .u64 0, .int .u64 0, .int .u64 0], []⟩ 8 (by kernel_rfl) (by kernel_rfl) (by kernel_rfl) (by kernel_rfl)) ?_
  intro W base args ds gs before hval0 hW hcnd _
  have hval : ∀ (j : Nat) t v, Try.f4.params[j]? = some t → args[j]? = some v → Value.okWide Try.prog W .any base t v := hval0
  have hW' := hW
  obtain ⟨p, q, hA0, hV, rfl, hfz, hnd⟩ := hW
  have hA : DataW.TrodAll enc Try.prog W 0 (fun _ => true) true Try.f4.params.toList args.toList ds p := hA0
  rw [Try.params4] at hA hval
  obtain ⟨v0, vs0, d0, ds0, p0, q0, hargs, rfl, rfl, h0, r0⟩ := trodAll_cons hA
  obtain ⟨v1, vs1, d1, ds1, p1, q1, rfl, rfl, rfl, h1, r1⟩ := trodAll_cons r0
  obtain ⟨v2, vs2, d2, ds2, p2, q2, rfl, rfl, rfl, h2, r2⟩ := trodAll_cons r1
  obtain ⟨rfl, rfl, rfl⟩ := trodAll_nil r2
  obtain rfl : args = #[v0, v1, v2] := by cases args; simp_all
  obtain ⟨rfl, rfl⟩ := trodVars_none hV
  obtain ⟨a0, rfl, rfl, rfl, w0⟩ := open_int Try.underlying27 (hval 0 27 v0 rfl rfl) h0
  obtain ⟨a1, rfl, rfl, rfl, w1⟩ := open_int Try.underlying27 (hval 1 27 v1 rfl rfl) h1
  obtain ⟨a2, rfl, rfl, rfl, w2⟩ := open_int Try.underlying27 (hval 2 27 v2 rfl rfl) h2
  clear hA0 hval0
  simp only [List.append_nil] at hW'
  refine (walk a0 a1 a2 w0 w1 w2 W).mono fun e W' ⟨he, bel⟩ => ?_
  subst he
  exact ⟨_, rfl, _, _, _, [], [], [], hW', (trodAll_cons_mk (shut_bool Try.underlying4 _) trodAll_mk0), (trodAll_cons_mk (shut_int Try.underlying27 w0) (trodAll_cons_mk (shut_int Try.underlying27 w1) (trodAll_cons_mk (shut_int Try.underlying27 w2) trodAll_mk0))), rfl, bel.frame _, fun h => by cases h⟩

theorem over : Rows.fnPosReencodeFixedPointRow.holds Try.pinned (OpenSpec.ofChange Rows.fnPosReencodeFixedPointSpec) :=
  OpenClaim.holds_of_wide 4 Try.f4 rfl rfl rfl rfl rfl rfl rfl ⟨rfl, rfl, rfl, rfl, rfl⟩ rfl rfl rfl rfl rfl (by kernel_rfl) Try.func4 (by kernel_rfl)
    (of_decide_eq_true (by kernel_rfl)) (by unfold Func.isWrapper; first | (rw [if_pos (by decide +kernel)]; kernel_rfl) | (rw [if_neg (by decide +kernel)]; exact ⟨rfl, rfl⟩))
    (fun os started H enc _ => lifted os started H enc)

/-- ████ THE STATEMENT ████ -/
theorem proved : Rows.FnPosReencodeFixedPointSaid :=
  over
#print axioms proved
end Go.Proofs.Ytmojheonollpeaa.fnPosReencodeFixedPoint
