/- Proved here: an Environ over the function that drops the first byte gives a set and declared Variable exactly for the names of two bytes and more, with that value, and the same at a second Get (FnFuncEnvironGetEmptyValueIsUnset returns true). No conditions. -/
import Derived.Test.YtknilfihibmgdaaRows
import Derived.WalkKit
import Derived.Test.YtknilfihibmgdaaEnv
import Derived.Deep.DeepCutAuto
import Derived.Laws.Rows
import Derived.ProofKit
import Derived.Below
import Derived.OpenShut
import Derived.ShutString
namespace Go.Proofs.Ytknilfihibmgdaa.fnFuncEnvironGetEmptyValueIsUnset
open Go.ChangeShapes Go.WideShapes Go.ChangeAt Go.RowKit
open Go.ChangeMaps (open_string shut_string)
set_option linter.unusedVariables false      -- a walk need not use every 'w<i>' (that an integer argument fits its kind)

theorem own : ownKnob Try.prog.godebug = none := by kernel_rfl

/-! ### STEP 1: THE WALK: the Go text returns true. 'Below w.heap.size w w'': the world has at most new blocks (Derived/RowKit3.lean). Part the cases AHEAD of 'go_enter' where a test parts the walk; take each callee by a contract of your own. -/
theorem bcell {W w1 : World} (hb : Below W.heap.size W w1) : ∀ b o, b < W.heap.size → w1.cell? ⟨b, o, none⟩ = W.cell? ⟨b, o, none⟩ := fun b o h => hb.cell (p := ⟨b, o, none⟩) h
theorem empty_of (s : ByteArray) (h : s.size < 2) : (s.extract 1 s.size).toList.isEmpty = true := by
  have : s.extract 1 s.size = ⟨#[]⟩ := by apply ByteArray.ext; simp; omega
  rw [this, ByteArray.toList_eq]; rfl
theorem some_of (s : ByteArray) (h : ¬ s.size < 2) : (s.extract 1 s.size).toList.isEmpty = false := by
  rw [ByteArray.toList_eq]
  have : (s.extract 1 s.size).data.toList.length = s.size - 1 := by simp
  cases e : (s.extract 1 s.size).data.toList with
  | nil => rw [e] at this; simp at this; omega
  | cons a l => rfl
/-- blocks p and q hold the Variable C, and nothing elder has turned -/
def Two (w0 : World) (p q : Nat) (C : Array Value) (W : World) : Prop := W.heap[p]? = some (.cells C 47 (0, 0)) ∧ W.heap[q]? = some (.cells C 47 (0, 0)) ∧ Below w0.heap.size w0 W
theorem lt_of_some {W : World} {p : Nat} {o : Obj} (h : W.heap[p]? = some o) : p < W.heap.size := by
  rcases Nat.lt_or_ge p W.heap.size with hlt | hge
  · exact hlt
  · rw [Array.getElem?_eq_none hge] at h; cases h
theorem Two.step {w0 : World} {p q : Nat} {C : Array Value} {W W' : World} (h : Two w0 p q C W) (hb : Below W.heap.size W W') : Two w0 p q C W' :=
  ⟨(hb.block p (lt_of_some h.1)).trans h.1, (hb.block q (lt_of_some h.2.1)).trans h.2.1, h.2.2.trans (hb.mono h.2.2.size)⟩
theorem Two.l {w0 : World} {p q : Nat} {C : Array Value} {W : World} (h : Two w0 p q C W) (i : Nat) : W.cell? ⟨p, i, none⟩ = C[i]? := cell_of_row W p i C 47 (0, 0) h.1
theorem Two.r {w0 : World} {p q : Nat} {C : Array Value} {W : World} (h : Two w0 p q C W) (i : Nat) : W.cell? ⟨q, i, none⟩ = C[i]? := cell_of_row W q i C 47 (0, 0) h.2.1
theorem two_mk (w0 w1 w2 : World) (C : Array Value) (h1 : Below w0.heap.size w0 w1) (h2 : Below (w1.alloc (.cells C 47)).heap.size (w1.alloc (.cells C 47)) w2) : Two w0 w1.heap.size w2.heap.size C (w2.alloc (.cells C 47)) := by
  have e1 : (w1.alloc (.cells C 47)).heap[w1.heap.size]? = some (.cells C 47 (0, 0)) := heap_alloc_new w1 _
  have e2 := (h2.block _ (lt_of_some e1)).trans e1
  refine ⟨(Below.heap_alloc w2 _ _ (lt_of_some e2)).trans e2, heap_alloc_new w2 _, ?_⟩
  have t := (h1.alloc h1.size (.cells C 47)).trans (h2.mono (Nat.le_trans h1.size (by simp)))
  exact t.alloc t.size _
set_option maxRecDepth 100000 in
set_option maxHeartbeats 2000000 in
theorem short (s : ByteArray) (w : World) (h2 : s.size < 2) :
    Calls Try.prog 4 #[.string s] w fun e w' => e = .returned (.bool true) ∧ Below w.heap.size w w' := by
  have he := empty_of s h2
  have HE := Lib.hid he
  clear he
  have mg := meth_get
  have tok : True := trivial
  go_enter Try.func4, Try.ntmps4
  go_upto_region 9 with (first
    | (go_at_call 16; refine (bytes_ok _ _ (by omega)).mono ?_; rintro e w' ⟨rfl, rfl⟩)
    | (go_at_call 17; refine (env_any _).mono ?_; rintro e w' ⟨rfl, rfl⟩)
    | (have _t := tok; go_at_call 87; refine (get_zero s _ (by omega) HE.out).mono ?_; rintro e wf ⟨rfl, hb1⟩
       have HBf := Lib.hid hb1; clear hb1 _t tok)
    | (go_at_call 87; refine (get_zero s _ (by omega) HE.out).mono ?_; rintro e w1 ⟨rfl, hb1⟩
       have HB1 := Lib.hid hb1; clear hb1))
  have HT := Lib.hid (two_mk w wf w1 #[.bool false, .bool false, .bool false, .bool false, .int .u8 0, .string ⟨#[]⟩, .slice none 0 0, .map none, .slice none 0 0] HBf.out HB1.out)
  generalize World.alloc w1 (.cells #[.bool false, .bool false, .bool false, .bool false, .int .u8 0, .string ⟨#[]⟩, .slice none 0 0, .map none, .slice none 0 0] 47) = W at *
  generalize wf.heap.size = p at *
  generalize w1.heap.size = q at *
  have tl := HT.out.l
  have tr := HT.out.r
  clear HB1 HBf
  go_wp2_with (first
    | (go_at_call 19; refine (isZero_zero _).mono ?_; rintro e w' ⟨rfl, hb⟩; replace HT := Lib.hid (HT.out.step hb); clear tl tr hb; have tl := HT.out.l; have tr := HT.out.r)
    | (go_at_call 20; refine (isSet_zero _).mono ?_; rintro e w' ⟨rfl, hb⟩; replace HT := Lib.hid (HT.out.step hb); clear tl tr hb; have tl := HT.out.l; have tr := HT.out.r)
    | (go_at_call 21; refine (declared_zero _).mono ?_; rintro e w' ⟨rfl, hb⟩; replace HT := Lib.hid (HT.out.step hb); clear tl tr hb; have tl := HT.out.l; have tr := HT.out.r)
    | (go_at_call 22; refine (string_zero _).mono ?_; rintro e w' ⟨rfl, hb⟩; replace HT := Lib.hid (HT.out.step hb); clear tl tr hb; have tl := HT.out.l; have tr := HT.out.r)
    | (go_at_call 23; refine (same_zero _).mono ?_; rintro e w' ⟨rfl, hb⟩; replace HT := Lib.hid (HT.out.step hb); clear tl tr hb; have tl := HT.out.l; have tr := HT.out.r))
  go_ret
  exact ⟨rfl, HT.out.2.2⟩
set_option maxRecDepth 100000 in
set_option maxHeartbeats 2000000 in
theorem long (s : ByteArray) (w : World) (h2 : ¬ s.size < 2) (hm : s.size ≤ 1048576) :
    Calls Try.prog 4 #[.string s] w fun e w' => e = .returned (.bool true) ∧ Below w.heap.size w w' := by
  have he := some_of s h2
  have HE := Lib.hid he
  clear he
  have mg := meth_get
  have tok : True := trivial
  go_enter Try.func4, Try.ntmps4
  go_upto_region 11 with (first
    | (go_at_call 16; refine (bytes_ok _ _ (by omega)).mono ?_; rintro e w' ⟨rfl, rfl⟩)
    | (go_at_call 17; refine (env_any _).mono ?_; rintro e w' ⟨rfl, rfl⟩)
    | (have _t := tok; go_at_call 87; refine (get_some s _ (by omega) HE.out).mono ?_; rintro e wf ⟨rfl, hb1⟩
       have HBf := Lib.hid hb1; clear hb1 _t tok)
    | (go_at_call 87; refine (get_some s _ (by omega) HE.out).mono ?_; rintro e w1 ⟨rfl, hb1⟩
       have HB1 := Lib.hid hb1; clear hb1))
  have HT := Lib.hid (two_mk w wf w1 #[.bool true, .bool false, .bool true, .bool false, .int .u8 1, .string (s.extract 1 s.size), .slice none 0 0, .map none, .slice none 0 0] HBf.out HB1.out)
  generalize World.alloc w1 (.cells #[.bool true, .bool false, .bool true, .bool false, .int .u8 1, .string (s.extract 1 s.size), .slice none 0 0, .map none, .slice none 0 0] 47) = W at *
  generalize wf.heap.size = p at *
  generalize w1.heap.size = q at *
  have tl := HT.out.l
  have tr := HT.out.r
  clear HB1 HBf
  go_wp2_with (first
    | (go_at_call 24; refine (isStr_str _ _).mono ?_; rintro e w' ⟨rfl, hb⟩; replace HT := Lib.hid (HT.out.step hb); clear tl tr hb; have tl := HT.out.l; have tr := HT.out.r)
    | (go_at_call 20; refine (isSet_str _ _).mono ?_; rintro e w' ⟨rfl, hb⟩; replace HT := Lib.hid (HT.out.step hb); clear tl tr hb; have tl := HT.out.l; have tr := HT.out.r)
    | (go_at_call 21; refine (declared_str _ _).mono ?_; rintro e w' ⟨rfl, hb⟩; replace HT := Lib.hid (HT.out.step hb); clear tl tr hb; have tl := HT.out.l; have tr := HT.out.r)
    | (go_at_call 22; refine (string_str _ _).mono ?_; rintro e w' ⟨rfl, hb⟩; replace HT := Lib.hid (HT.out.step hb); clear tl tr hb; have tl := HT.out.l; have tr := HT.out.r)
    | (go_at_call 23; refine (same_str _ _).mono ?_; rintro e w' ⟨rfl, hb⟩; replace HT := Lib.hid (HT.out.step hb); clear tl tr hb; have tl := HT.out.l; have tr := HT.out.r))
  go_ret
  exact ⟨by first | rfl | simp, HT.out.2.2⟩
set_option maxRecDepth 100000 in
set_option maxHeartbeats 2000000 in
theorem walk (a0 : ByteArray) (w0 : a0.size ≤ maxLen) (w : World) :
    Calls Try.prog 4 #[.string a0] w fun e w' => e = .returned (.bool true) ∧ Below w.heap.size w w' := by
  unfold maxLen at w0
  by_cases h1 : 1048576 < a0.size
  · go_enter Try.func4, Try.ntmps4
    go_wp2_with (go_at_call 16; refine (bytes_no _ _ h1 w0).mono ?_; rintro e w' ⟨rfl, rfl⟩)
    go_ret
    exact ⟨rfl, Below.refl _ _⟩
  by_cases h2 : a0.size < 2
  · exact short a0 w h2
  exact long a0 w h2 (by omega)

/-! ### THE ROW's STEP: WRITTEN OUT: LEAVE IT -/
set_option maxRecDepth 100000 in
theorem lifted (os : Os) (started : os.Started) (H : Type) (enc : TypeId × Value → H) :
    ReturnsInHanded {} Try.checked os 4 .any (Rows.fnFuncEnvironGetEmptyValueIsUnsetSpec.pre6 enc Try.prog Try.f4 Rows.fnFuncEnvironGetEmptyValueIsUnsetRow.domain false) (Rows.fnFuncEnvironGetEmptyValueIsUnsetSpec.post enc Try.prog Try.f4 false true false false) := by
  refine returnsInHanded_of_change (C := Try.checked) own started (by kernel_rfl) Try.func4
    (ChangeSpec.witness6 (enc := enc) (C := Try.checked) false ⟨#[], #[.string ByteArray.empty], []⟩ 8 (by kernel_rfl) (by kernel_rfl) (by kernel_rfl) (by kernel_rfl)) ?_
  intro W base args ds gs before hval0 hW hcnd _
  have hval : ∀ (j : Nat) t v, Try.f4.params[j]? = some t → args[j]? = some v → Value.okWide Try.prog W .any base t v := hval0
  have hW' := hW
  obtain ⟨p, q, hA0, hV, rfl, hfz, hnd⟩ := hW
  have hA : DataW.TrodAll enc Try.prog W 0 (fun _ => true) true Try.f4.params.toList args.toList ds p := hA0
  rw [Try.params4] at hA hval
  obtain ⟨v0, vs0, d0, ds0, p0, q0, hargs, rfl, rfl, h0, r0⟩ := trodAll_cons hA
  obtain ⟨rfl, rfl, rfl⟩ := trodAll_nil r0
  obtain rfl : args = #[v0] := by cases args; simp_all
  obtain ⟨rfl, rfl⟩ := trodVars_none hV
  obtain ⟨a0, rfl, rfl, rfl, w0⟩ := open_string Try.underlying9 (hval 0 9 v0 rfl rfl) h0
  clear hA0 hval0
  simp only [List.append_nil] at hW'
  refine (walk a0 w0 W).mono fun e W' ⟨he, bel⟩ => ?_
  subst he
  exact ⟨_, rfl, _, _, _, [], [], [], hW', (trodAll_cons_mk (shut_bool Try.underlying4 _) trodAll_mk0), (trodAll_cons_mk (shut_string Try.underlying9 w0) trodAll_mk0), rfl, bel.frame _, fun h => by cases h⟩

theorem over : Rows.fnFuncEnvironGetEmptyValueIsUnsetRow.holds Try.pinned (OpenSpec.ofChange Rows.fnFuncEnvironGetEmptyValueIsUnsetSpec) :=
  OpenClaim.holds_of_wide 4 Try.f4 rfl rfl rfl rfl rfl rfl rfl ⟨rfl, rfl, rfl, rfl, rfl⟩ rfl rfl rfl rfl rfl (by kernel_rfl) Try.func4 (by kernel_rfl)
    (of_decide_eq_true (by kernel_rfl)) (by unfold Func.isWrapper; first | (rw [if_pos (by decide +kernel)]; kernel_rfl) | (rw [if_neg (by decide +kernel)]; exact ⟨rfl, rfl⟩))
    (fun os started H enc _ => lifted os started H enc)

/-- ████ THE STATEMENT ████ -/
theorem proved : Rows.FnFuncEnvironGetEmptyValueIsUnsetSaid :=
  over
#print axioms proved
end Go.Proofs.Ytknilfihibmgdaa.fnFuncEnvironGetEmptyValueIsUnset
