/- Proved here: a run of recoverError calls answers true for exactly the remaining budget and false after, and the counter ends at done plus min(calls, budget) (FnRecoverErrorGrantsExactlyTheRemainingBudget returns true). No conditions. -/
import Derived.Test.YtijilflnfdgdnaaRows
import Derived.WalkKit
import Derived.Test.YtijilflnfdgdnaaRec
import Derived.ProofKit
import Derived.Below
import Derived.OpenShut
import Derived.ShutString
namespace Go.Proofs.Ytijilflnfdgdnaa.fnRecoverErrorGrantsExactlyTheRemainingBudget
open Go.ChangeShapes Go.WideShapes Go.ChangeAt Go.RowKit
open Go.ChangeMaps (open_string shut_string)
set_option linter.unusedVariables false      -- a walk need not use every 'w<i>' (that an integer argument fits its kind)

theorem own : ownKnob Try.prog.godebug = none := by kernel_rfl

/-! ### STEP 1: THE WALK: the Go text returns true. 'Below w.heap.size w w'': the world has at most new blocks (Derived/RowKit3.lean). Part the cases AHEAD of 'go_enter' where a test parts the walk; take each callee by a contract of your own. -/
/-- after k calls: g granted, the counter at done + g -/
def Run (w : World) (b : Nat) (done m R : Int) (n : Nat) (vg vi : Value) (wr : World) : Prop :=
  ∃ k g : Nat, k ≤ n ∧ g ≤ k ∧ (g : Int) ≤ R ∧ (g = k ∨ (g : Int) = R) ∧ vi = .int .i64 k ∧ vg = .int .i64 g ∧ St w b (done + g) m wr
set_option maxRecDepth 100000 in
set_option maxHeartbeats 4000000 in
theorem some_left (d m : Int) (n : Nat) (w : World) (h0 : 0 ≤ d) (hm : m ≤ 9223372036854775807) (hd : d < m) (hn : n ≤ 65536) :
    Calls Try.prog 5 #[.int .i64 d, .int .i64 m, .int .i64 n] w fun e w' => e = .returned (.bool true) ∧ Below w.heap.size w w' := by
  have z0 : ¬ (n : Int) < 0 := by omega
  have z1 : ¬ (65536 : Int) < n := by omega
  have z2 : decide (m < d) = false := by simp; omega
  go_enter Try.func5, Try.ntmps5
  go_wp2_with (go_at_call 17; refine (newRec _ _ _).mono ?_; rintro e w1 ⟨rfl, hs⟩; have HS := Lib.hid hs; clear hs)
  generalize hb : w.heap.size = b at HS ⊢
  have hB : w.heap.size ≤ b := by omega
  clear hb
  go_loopw [9, 10] (fun vg vi wr => Run w b d m (m - d) n vg vi wr) (fun _ vi _ => n - (intOf vi).toNat)
  case atStart => exact ⟨0, 0, Nat.zero_le _, Nat.le_refl _, by omega, .inl rfl, rfl, rfl, by simpa using HS.out⟩
  case round =>
    obtain ⟨k, g, hk, hgk, hgR, hor, rfl, rfl, hst⟩ := hrel
    have HT := Lib.hid hst
    clear hst HS
    by_cases hlt : k < n
    · by_cases hR : (k : Int) < m - d
      · have e : g = k := by omega
        subst e
        go_wp2_with (go_at_call 18; refine (zrec_yes w b (d + g) m _ HT.out (by omega) (by omega) hm).mono ?_; rintro e w' ⟨rfl, hq⟩; have HQ := Lib.hid hq; clear hq)
        go_roundw
        case rel => exact ⟨g + 1, g + 1, by omega, by omega, by omega, .inl rfl, by go_num, by go_num, by have := HQ.out; rw [Int.add_assoc] at this; simpa using this⟩
        case measure => simp [intOf]; omega
      · have e : (g : Int) = m - d := by omega
        have hd' : ¬ d + (g : Int) < m := by omega
        have hR' : decide ((k : Int) < m - d) = false := by simpa using hR
        have HE := Lib.hid e
        clear e hor
        go_wp2_with (go_at_call 18; refine (zrec_no w b (d + g) m _ HT.out hd').mono ?_; rintro e w' ⟨rfl, hq⟩; have HQ := Lib.hid hq; clear hq)
        go_roundw
        case rel => exact ⟨k + 1, g, by omega, by omega, hgR, .inr HE.out, by go_num, rfl, HQ.out⟩
        case measure => simp [intOf]; omega
    · have hkn : k = n := by omega
      subst hkn
      by_cases hR : m - d < (k : Int)
      · have e1 : ((g : Int) == m - d) = true := by simp; omega
        have e2 : (d + (g : Int) == d + (m - d)) = true := by simp; omega
        clear hor
        go_wp2_with (go_at_call 19; refine (zrecd w b (d + g) m _ HT.out).mono ?_; rintro e w' ⟨rfl, rfl⟩)
        go_ret
        exact ⟨by first | rfl | (simp; omega), HT.out.2.2.2.2⟩
      · have e : g = k := by omega
        subst e
        clear hor
        go_wp2_with (go_at_call 19; refine (zrecd w b (d + g) m _ HT.out).mono ?_; rintro e w' ⟨rfl, rfl⟩)
        go_ret
        exact ⟨by first | rfl | (simp; omega), HT.out.2.2.2.2⟩
/-- after k calls: none granted -/
def Idle (w : World) (b : Nat) (d m : Int) (n : Nat) (vg vi : Value) (wr : World) : Prop := ∃ k : Nat, k ≤ n ∧ vi = .int .i64 k ∧ vg = .int .i64 0 ∧ St w b d m wr
set_option maxRecDepth 100000 in
set_option maxHeartbeats 4000000 in
theorem none_left (d m : Int) (n : Nat) (w : World) (h0 : 0 ≤ d) (h9 : d ≤ 9223372036854775807) (hd : ¬ d < m) (hs : decide (m < d) = false ∨ (decide (m < d) = true ∧ (d != 0) = false)) (hn : n ≤ 65536) :
    Calls Try.prog 5 #[.int .i64 d, .int .i64 m, .int .i64 n] w fun e w' => e = .returned (.bool true) ∧ Below w.heap.size w w' := by
  have z0 : ¬ (n : Int) < 0 := by omega
  have z1 : ¬ (65536 : Int) < n := by omega
  have z3 : ¬ d < 0 := by omega
  rcases hs with z2 | ⟨z2, z4⟩
  all_goals
    go_enter Try.func5, Try.ntmps5
    go_wp2_with (go_at_call 17; refine (newRec _ _ _).mono ?_; rintro e w1 ⟨rfl, hs⟩; have HS := Lib.hid hs; clear hs)
    generalize hb : w.heap.size = b at HS ⊢
    have hB : w.heap.size ≤ b := by omega
    clear hb
    go_loopw [9, 10] (fun vg vi wr => Idle w b d m n vg vi wr) (fun _ vi _ => n - (intOf vi).toNat)
    case atStart => exact ⟨0, Nat.zero_le _, rfl, rfl, HS.out⟩
    case round =>
      obtain ⟨k, hk, rfl, rfl, hst⟩ := hrel
      have HT := Lib.hid hst
      clear hst HS
      by_cases hlt : k < n
      · have hk0 : decide ((k : Int) < 0) = false := by simp
        go_wp2_with (go_at_call 18; refine (zrec_no w b d m _ HT.out (by omega)).mono ?_; rintro e w' ⟨rfl, hq⟩; have HQ := Lib.hid hq; clear hq)
        go_roundw
        case rel => exact ⟨k + 1, by omega, by go_num, rfl, HQ.out⟩
        case measure => simp [intOf]; omega
      · have hkn : k = n := by omega
        subst hkn
        by_cases hz : k = 0
        · subst hz
          go_wp2_with (go_at_call 19; refine (zrecd w b d m _ HT.out).mono ?_; rintro e w' ⟨rfl, rfl⟩)
          go_ret
          exact ⟨by first | rfl | (simp; omega), HT.out.2.2.2.2⟩
        · have hz' : (0 : Int) < (k : Int) := by omega
          go_wp2_with (go_at_call 19; refine (zrecd w b d m _ HT.out).mono ?_; rintro e w' ⟨rfl, rfl⟩)
          go_ret
          exact ⟨by first | rfl | (simp; omega), HT.out.2.2.2.2⟩
set_option maxHeartbeats 1000000 in
theorem walk (a0 : Int) (a1 : Int) (a2 : Int) (w0 : (Lit.int .i64 a0).wf = true) (w1 : (Lit.int .i64 a1).wf = true) (w2 : (Lit.int .i64 a2).wf = true) (w : World) :
    Calls Try.prog 5 #[.int .i64 a0, .int .i64 a1, .int .i64 a2] w fun e w' => e = .returned (.bool true) ∧ Below w.heap.size w w' := by
  have b0 := bounds_i64 w0
  have b1 := bounds_i64 w1
  have b2 := bounds_i64 w2
  clear w0 w1 w2
  by_cases h0 : a2 < 0
  · go_enter Try.func5, Try.ntmps5
    go_wp2
    go_ret
    exact ⟨rfl, Below.refl _ _⟩
  by_cases h1 : 65536 < a2
  · go_enter Try.func5, Try.ntmps5
    go_wp2
    go_ret
    exact ⟨rfl, Below.refl _ _⟩
  by_cases h2 : a0 < 0
  · go_enter Try.func5, Try.ntmps5
    go_wp2
    go_ret
    exact ⟨rfl, Below.refl _ _⟩
  obtain ⟨n, rfl⟩ := Int.eq_ofNat_of_zero_le (show 0 ≤ a2 by omega)
  by_cases h3 : a0 < a1
  · exact some_left a0 a1 n w (by omega) b1.2 h3 (by omega)
  by_cases h4 : a1 < a0
  · rcases Bool.eq_false_or_eq_true (a0 != 0) with h5 | h5
    · go_enter Try.func5, Try.ntmps5
      go_wp2
      go_ret
      exact ⟨rfl, Below.refl _ _⟩
    · exact none_left a0 a1 n w (by omega) b0.2 h3 (.inr ⟨by simpa using h4, h5⟩) (by omega)
  · exact none_left a0 a1 n w (by omega) b0.2 h3 (.inl (by simpa using h4)) (by omega)

/-! ### THE ROW's STEP: WRITTEN OUT: LEAVE IT -/
set_option maxRecDepth 100000 in
theorem lifted (os : Os) (started : os.Started) (H : Type) (enc : TypeId × Value → H) :
    ReturnsInHanded {} Try.checked os 5 .any (Rows.fnRecoverErrorGrantsExactlyTheRemainingBudgetSpec.pre6 enc Try.prog Try.f5 Rows.fnRecoverErrorGrantsExactlyTheRemainingBudgetRow.domain false) (Rows.fnRecoverErrorGrantsExactlyTheRemainingBudgetSpec.post enc Try.prog Try.f5 false true false false) := by
  refine returnsInHanded_of_change (C := Try.checked) own started (by kernel_rfl) Try.func5
    (ChangeSpec.witness6 (enc := enc) (C := Try.checked) false ⟨#[], #[.int .i64 0, .int .i64 0, .int .i64 0], []⟩ 8 (by kernel_rfl) (by kernel_rfl) (by kernel_rfl) (by kernel_rfl)) ?_
  intro W base args ds gs before hval0 hW hcnd _
  have hval : ∀ (j : Nat) t v, Try.f5.params[j]? = some t → args[j]? = some v → Value.okWide Try.prog W .any base t v := hval0
  have hW' := hW
  obtain ⟨p, q, hA0, hV, rfl, hfz, hnd⟩ := hW
  have hA : DataW.TrodAll enc Try.prog W 0 (fun _ => true) true Try.f5.params.toList args.toList ds p := hA0
  rw [Try.params5] at hA hval
  obtain ⟨v0, vs0, d0, ds0, p0, q0, hargs, rfl, rfl, h0, r0⟩ := trodAll_cons hA
  obtain ⟨v1, vs1, d1, ds1, p1, q1, rfl, rfl, rfl, h1, r1⟩ := trodAll_cons r0
  obtain ⟨v2, vs2, d2, ds2, p2, q2, rfl, rfl, rfl, h2, r2⟩ := trodAll_cons r1
  obtain ⟨rfl, rfl, rfl⟩ := trodAll_nil r2
  obtain rfl : args = #[v0, v1, v2] := by cases args; simp_all
  obtain ⟨rfl, rfl⟩ := trodVars_none hV
  obtain ⟨a0, rfl, rfl, rfl, w0⟩ := open_int Try.underlying3 (hval 0 3 v0 rfl rfl) h0
  obtain ⟨a1, rfl, rfl, rfl, w1⟩ := open_int Try.underlying3 (hval 1 3 v1 rfl rfl) h1
  obtain ⟨a2, rfl, rfl, rfl, w2⟩ := open_int Try.underlying3 (hval 2 3 v2 rfl rfl) h2
  clear hA0 hval0
  simp only [List.append_nil] at hW'
  refine (walk a0 a1 a2 w0 w1 w2 W).mono fun e W' ⟨he, bel⟩ => ?_
  subst he
  exact ⟨_, rfl, _, _, _, [], [], [], hW', (trodAll_cons_mk (shut_bool Try.underlying4 _) trodAll_mk0), (trodAll_cons_mk (shut_int Try.underlying3 w0) (trodAll_cons_mk (shut_int Try.underlying3 w1) (trodAll_cons_mk (shut_int Try.underlying3 w2) trodAll_mk0))), rfl, bel.frame _, fun h => by cases h⟩

theorem over : Rows.fnRecoverErrorGrantsExactlyTheRemainingBudgetRow.holds Try.pinned (OpenSpec.ofChange Rows.fnRecoverErrorGrantsExactlyTheRemainingBudgetSpec) :=
  OpenClaim.holds_of_wide 5 Try.f5 rfl rfl rfl rfl rfl rfl rfl ⟨rfl, rfl, rfl, rfl, rfl⟩ rfl rfl rfl rfl rfl (by kernel_rfl) Try.func5 (by kernel_rfl)
    (of_decide_eq_true (by kernel_rfl)) (by unfold Func.isWrapper; first | (rw [if_pos (by decide +kernel)]; kernel_rfl) | (rw [if_neg (by decide +kernel)]; exact ⟨rfl, rfl⟩))
    (fun os started H enc _ => lifted os started H enc)

/-- ████ THE STATEMENT ████ -/
theorem proved : Rows.FnRecoverErrorGrantsExactlyTheRemainingBudgetSaid :=
  over
#print axioms proved
end Go.Proofs.Ytijilflnfdgdnaa.fnRecoverErrorGrantsExactlyTheRemainingBudget
