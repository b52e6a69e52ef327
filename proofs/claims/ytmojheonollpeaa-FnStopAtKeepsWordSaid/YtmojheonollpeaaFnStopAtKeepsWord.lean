/- Proved here: for every word of at most four bytes without a blank, NewParser(StopAt(word)) holds exactly its bytes as the stop word and keeps its other defaults (FnStopAtKeepsWord returns true). No conditions. -/
import Derived.Test.YtmojheonollpeaaRows
import Derived.WalkKit
import Derived.Test.YtmojheonollpeaaStopC
import Derived.ProofKit
import Derived.Below
import Derived.OpenShut
import Derived.ShutString
namespace Go.Proofs.Ytmojheonollpeaa.fnStopAtKeepsWord
open Go.ChangeShapes Go.WideShapes Go.ChangeAt Go.RowKit
open Go.ChangeMaps (open_string shut_string)
set_option linter.unusedVariables false      -- a walk need not use every 'w<i>' (that an integer argument fits its kind)

theorem own : ownKnob Try.prog.godebug = none := by kernel_rfl

/-! ### STEP 1: THE WALK: the Go text returns true. 'Below w.heap.size w w'': the world has at most new blocks (Derived/RowKit3.lean). Part the cases AHEAD of 'go_enter' where a test parts the walk; take each callee by a contract of your own. -/
open SA
set_option maxRecDepth 100000 in
set_option maxHeartbeats 4000000 in
theorem good (s : ByteArray) (w : World) (h4 : s.size ≤ 4) : Calls Try.prog 7 #[.string s] w fun e w' => e = .returned (.bool true) ∧ Below w.heap.size w w' := by
  have h5 : ¬ (4 : Int) < (s.size : Int) := by omega
  have h6 : ¬ (1048576 : Int) < (s.size : Int) := by omega
  go_enter Try.func7, Try.ntmps7
  go_wp2_with (first
    | (go_at_call 20; go_in)
    | (go_at_call 21; refine (ok_any s _ h4).mono ?_; rintro e w' ⟨x, rfl, hx, rfl⟩; have HX := Lib.hid hx; clear hx; cases x)
    | (go_at_call 22; refine (znew_any s _ h4 (HX.out rfl)).mono ?_; rintro e w1 ⟨p, st, rfl, hst, hp, hb⟩; have HS := Lib.hid hst; have HP := Lib.hid hp; have HB := Lib.hid hb; clear hst hp hb)
    | (go_at_call 23; refine (rd_stop p st _ HP.out).mono ?_; rintro e w' ⟨rfl, rfl⟩; obtain ⟨g, c, hsl, hcl⟩ := HS.out; subst hsl))
  · go_ret
    exact ⟨rfl, Below.refl _ _⟩
  · have HC := Lib.hid hcl
    clear hcl
    go_loopw [5] (fun vi wr => ∃ (k q : Nat), k ≤ s.size ∧ vi = .int .i64 k ∧ wr = w1.drewN q) (fun vi _ => s.size - (intOf vi).toNat)
    case atStart => exact ⟨0, 0, Nat.zero_le _, rfl, rfl⟩
    case round =>
      obtain ⟨k, q, hk, rfl, rfl⟩ := hrel
      by_cases hlt : k < s.size
      · have i0 : (0 : Int) ≤ (k : Int) := by omega
        have i1 : (k : Int) < (s.size : Int) := by omega
        have hx := HC.out k hlt
        have hg : (⟨g, 0, none⟩ : Addr).add k = ⟨g, k, none⟩ := by unfold Addr.add; split <;> simp_all
        have hx2 : w1.cell? ((⟨g, 0, none⟩ : Addr).add k) = some (.int .u8 ((s[k]'hlt).toNat : Int)) := by rw [hg]; exact hx
        have hne : (((s[k]'hlt).toNat : Int) != ((s[k]'hlt).toNat : Int)) = false := by simp
        clear hg
        go_wp2
        go_quiet (fail)
        go_wp2
        go_roundw
        case rel => exact ⟨k + 1, _, by omega, by go_num, rfl⟩
        case measure => simp [intOf]; omega
      · have hnk : ¬ (k : Int) < (s.size : Int) := by omega
        have HPQ : Hid (PAt p (.slice (some ⟨g, 0, none⟩) s.size c) (w1.drewN q)) := Lib.hid (HP.out.below (below_drewN (Below.refl _ _) _))
        go_wp2_with (first
          | (go_at_call 24; refine (rd_lang p _ _ HPQ.out).mono ?_; rintro e w' ⟨rfl, rfl⟩)
          | (go_at_call 25; refine (rd_keep p _ _ HPQ.out).mono ?_; rintro e w' ⟨rfl, rfl⟩)
          | (go_at_call 26; refine (rd_max p _ _ HPQ.out).mono ?_; rintro e w' ⟨rfl, rfl⟩))
        go_ret
        exact ⟨by first | rfl | simp, below_drewN HB.out _⟩
set_option maxHeartbeats 1000000 in
theorem walk (a0 : ByteArray) (w0 : a0.size ≤ maxLen) (w : World) :
    Calls Try.prog 7 #[.string a0] w fun e w' => e = .returned (.bool true) ∧ Below w.heap.size w w' := by
  unfold maxLen at w0
  by_cases h4 : a0.size ≤ 4
  · exact good a0 w h4
  by_cases hb : 1048576 < a0.size
  · have h5 : (1048576 : Int) < (a0.size : Int) := by omega
    go_enter Try.func7, Try.ntmps7
    go_wp2_with (go_at_call 20; go_in)
    go_ret
    exact ⟨rfl, Below.refl _ _⟩
  · have h5 : ¬ (1048576 : Int) < (a0.size : Int) := by omega
    have h6 : (4 : Int) < (a0.size : Int) := by omega
    go_enter Try.func7, Try.ntmps7
    go_wp2_with (go_at_call 20; go_in)
    go_ret
    exact ⟨rfl, Below.refl _ _⟩

/-! ### THE ROW's STEP: WRITTEN OUT: LEAVE IT -/
set_option maxRecDepth 100000 in
theorem lifted (os : Os) (started : os.Started) (H : Type) (enc : TypeId × Value → H) :
    ReturnsInHanded {} Try.checked os 7 .any (Rows.fnStopAtKeepsWordSpec.pre6 enc Try.prog Try.f7 Rows.fnStopAtKeepsWordRow.domain false) (Rows.fnStopAtKeepsWordSpec.post enc Try.prog Try.f7 false true false false) := by
  refine returnsInHanded_of_change (C := Try.checked) own started (by kernel_rfl) Try.func7
    (ChangeSpec.witness6 (enc := enc) (C := Try.checked) false ⟨#[], #[.string ByteArray.empty], []⟩ 8 (by kernel_rfl) (by kernel_rfl) (by kernel_rfl) (by kernel_rfl)) ?_
  intro W base args ds gs before hval0 hW hcnd _
  have hval : ∀ (j : Nat) t v, Try.f7.params[j]? = some t → args[j]? = some v → Value.okWide Try.prog W .any base t v := hval0
  have hW' := hW
  obtain ⟨p, q, hA0, hV, rfl, hfz, hnd⟩ := hW
  have hA : DataW.TrodAll enc Try.prog W 0 (fun _ => true) true Try.f7.params.toList args.toList ds p := hA0
  rw [Try.params7] at hA hval
  obtain ⟨v0, vs0, d0, ds0, p0, q0, hargs, rfl, rfl, h0, r0⟩ := trodAll_cons hA
  obtain ⟨rfl, rfl, rfl⟩ := trodAll_nil r0
  obtain rfl : args = #[v0] := by cases args; simp_all
  obtain ⟨rfl, rfl⟩ := trodVars_none hV
  obtain ⟨a0, rfl, rfl, rfl, w0⟩ := open_string Try.underlying9 (hval 0 9 v0 rfl rfl) h0
  clear hA0 hval0
  simp only [List.append_nil] at hW'
  refine (walk a0 w0 W).mono fun e W' ⟨he, bel⟩ => ?_
  subst he
  exact ⟨_, rfl, _, _, _, [], [], [], hW', (trodAll_cons_mk (shut_bool Try.underlying4 _) trodAll_mk0), (trodAll_cons_mk (shut_string Try.underlying9 w0) trodAll_mk0), rfl, bel.frame _, fun h => by cases h⟩

theorem over : Rows.fnStopAtKeepsWordRow.holds Try.pinned (OpenSpec.ofChange Rows.fnStopAtKeepsWordSpec) :=
  OpenClaim.holds_of_wide 7 Try.f7 rfl rfl rfl rfl rfl rfl rfl ⟨rfl, rfl, rfl, rfl, rfl⟩ rfl rfl rfl rfl rfl (by kernel_rfl) Try.func7 (by kernel_rfl)
    (of_decide_eq_true (by kernel_rfl)) (by unfold Func.isWrapper; first | (rw [if_pos (by decide +kernel)]; kernel_rfl) | (rw [if_neg (by decide +kernel)]; exact ⟨rfl, rfl⟩))
    (fun os started H enc _ => lifted os started H enc)

/-- ████ THE STATEMENT ████ -/
theorem proved : Rows.FnStopAtKeepsWordSaid :=
  over
#print axioms proved
end Go.Proofs.Ytmojheonollpeaa.fnStopAtKeepsWord
