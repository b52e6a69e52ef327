/- Proved here: for every base and all strings s, t of digits below base, the value of s+t is value(s) times value of 1 followed by len(t) zeros plus value(t), in wrapping int64 arithmetic (FnAtoiLargeBaseConcat returns true). No conditions. -/
import Derived.Test.YtefgeoadfjghaaaRows
import Derived.WalkKit
import Derived.Test.YtefgeoadfjghaaaAtoiB
import Derived.ProofKit
import Derived.Below
import Derived.OpenShut
import Derived.ShutString
namespace Go.Proofs.Ytefgeoadfjghaaa.fnAtoiLargeBaseConcat
open Go.ChangeShapes Go.WideShapes Go.ChangeAt Go.RowKit
open Go.ChangeMaps (open_string shut_string)
set_option linter.unusedVariables false      -- a walk need not use every 'w<i>' (that an integer argument fits its kind)

theorem own : ownKnob Try.prog.godebug = none := by kernel_rfl

/-! ### STEP 1: THE WALK: the Go text returns true. 'Below w.heap.size w w'': the world has at most new blocks (Derived/RowKit3.lean). Part the cases AHEAD of 'go_enter' where a test parts the walk; take each callee by a contract of your own. -/
open Go.Proofs.Ytefgeoadfjghaaa.Atoi
theorem concat_bytes (base : Int) (s t : ByteArray) (hs : allB base s.data.toList = true) (ht : allB base t.data.toList = true) :
    (atoiL base (s ++ t).data.toList == wrap64 (wrap64 (atoiL base s.data.toList * atoiL base ((⟨#[49]⟩ : ByteArray) ++ zeroBytes t.size).data.toList) + atoiL base t.data.toList)) = true := by
  rw [beq_iff_eq]
  have e1 : (s ++ t).data.toList = s.data.toList ++ t.data.toList := by simp
  have e2 : ((⟨#[49]⟩ : ByteArray) ++ zeroBytes t.size).data.toList = 49 :: List.replicate t.data.toList.length 48 := by
    rw [ByteArray.data_append, Array.toList_append, zeroBytes_list]; rfl
  rw [e1, e2]
  exact concat base _ _ hs ht
set_option maxHeartbeats 1000000 in
theorem walk (a0 : ByteArray) (a1 : ByteArray) (a2 : Int) (w0 : a0.size ≤ maxLen) (w1 : a1.size ≤ maxLen) (w2 : (Lit.int .i64 a2).wf = true) (w : World) :
    Calls Try.prog 6 #[.string a0, .string a1, .int .i64 a2] w fun e w' => e = .returned (.bool true) ∧ Below w.heap.size w w' := by
  unfold maxLen at w0 w1
  clear w2
  by_cases h1 : a0.size ≤ 65536
  · by_cases h2 : a1.size ≤ 65536
    · rcases Bool.eq_false_or_eq_true (allB a2 a0.data.toList) with g1 | g1
      · rcases Bool.eq_false_or_eq_true (allB a2 a1.data.toList) with g2 | g2
        · have hc := concat_bytes a2 a0 a1 g1 g2
          have hz := zeroBytes_size a1.size
          have hz1 : (⟨#[49]⟩ : ByteArray).size = 1 := rfl
          go_enter Try.func6, Try.ntmps6
          go_wp2_with (first | (go_at_call 21; go_in) | (go_at_call 22; refine (allDigits_any _ _ _ (by omega)).mono ?_; rintro e w' ⟨rfl, rfl⟩) | (go_at_call 23; refine (zatoi_any _ _ _ (by first | omega | (rw [ByteArray.size_append]; omega))).mono ?_; rintro e w' ⟨rfl, rfl⟩) | (go_at_call 24; refine (zeros_any _ _ h2).mono ?_; rintro e w3 ⟨rfl, hb3⟩))
          go_ret
          exact ⟨by simpa using hc, hb3⟩
        · go_enter Try.func6, Try.ntmps6
          go_wp2_with (first | (go_at_call 21; go_in) | (go_at_call 22; refine (allDigits_any _ _ _ (by omega)).mono ?_; rintro e w' ⟨rfl, rfl⟩))
          go_ret
          exact ⟨rfl, Below.refl _ _⟩
      · go_enter Try.func6, Try.ntmps6
        go_wp2_with (first | (go_at_call 21; go_in) | (go_at_call 22; refine (allDigits_any _ _ _ (by omega)).mono ?_; rintro e w' ⟨rfl, rfl⟩))
        go_ret
        exact ⟨rfl, Below.refl _ _⟩
    · go_enter Try.func6, Try.ntmps6
      go_wp2
      all_goals
        go_ret
        exact ⟨rfl, Below.refl _ _⟩
  · go_enter Try.func6, Try.ntmps6
    go_wp2
    all_goals
      go_ret
      exact ⟨rfl, Below.refl _ _⟩

/-! ### THE ROW's STEP: WRITTEN OUT: LEAVE IT -/
set_option maxRecDepth 100000 in
theorem lifted (os : Os) (started : os.Started) (H : Type) (enc : TypeId × Value → H) :
    ReturnsInHanded {} Try.checked os 6 .any (Rows.fnAtoiLargeBaseConcatSpec.pre6 enc Try.prog Try.f6 Rows.fnAtoiLargeBaseConcatRow.domain false) (Rows.fnAtoiLargeBaseConcatSpec.post enc Try.prog Try.f6 false true false false) := by
  refine returnsInHanded_of_change (C := Try.checked) own started (by kernel_rfl) Try.func6
    (ChangeSpec.witness6 (enc := enc) (C := Try.checked) false ⟨#[], #[.string ByteArray.empty, .string ByteArray.empty, .int .i64 0], []⟩ 8 (by kernel_rfl) (by kernel_rfl) (by kernel_rfl) (by kernel_rfl)) ?_
  intro W base args ds gs before hval0 hW hcnd _
  have hval : ∀ (j : Nat) t v, Try.f6.params[j]? = some t → args[j]? = some v → Value.okWide Try.prog W .any base t v := hval0
  have hW' := hW
  obtain ⟨p, q, hA0, hV, rfl, hfz, hnd⟩ := hW
  have hA : DataW.TrodAll enc Try.prog W 0 (fun _ => true) true Try.f6.params.toList args.toList ds p := hA0
  rw [Try.params6] at hA hval
  obtain ⟨v0, vs0, d0, ds0, p0, q0, hargs, rfl, rfl, h0, r0⟩ := trodAll_cons hA
  obtain ⟨v1, vs1, d1, ds1, p1, q1, rfl, rfl, rfl, h1, r1⟩ := trodAll_cons r0
  obtain ⟨v2, vs2, d2, ds2, p2, q2, rfl, rfl, rfl, h2, r2⟩ := trodAll_cons r1
  obtain ⟨rfl, rfl, rfl⟩ := trodAll_nil r2
  obtain rfl : args = #[v0, v1, v2] := by cases args; simp_all
  obtain ⟨rfl, rfl⟩ := trodVars_none hV
  obtain ⟨a0, rfl, rfl, rfl, w0⟩ := open_string Try.underlying9 (hval 0 9 v0 rfl rfl) h0
  obtain ⟨a1, rfl, rfl, rfl, w1⟩ := open_string Try.underlying9 (hval 1 9 v1 rfl rfl) h1
  obtain ⟨a2, rfl, rfl, rfl, w2⟩ := open_int Try.underlying2 (hval 2 2 v2 rfl rfl) h2
  clear hA0 hval0
  simp only [List.append_nil] at hW'
  refine (walk a0 a1 a2 w0 w1 w2 W).mono fun e W' ⟨he, bel⟩ => ?_
  subst he
  exact ⟨_, rfl, _, _, _, [], [], [], hW', (trodAll_cons_mk (shut_bool Try.underlying4 _) trodAll_mk0), (trodAll_cons_mk (shut_string Try.underlying9 w0) (trodAll_cons_mk (shut_string Try.underlying9 w1) (trodAll_cons_mk (shut_int Try.underlying2 w2) trodAll_mk0))), rfl, bel.frame _, fun h => by cases h⟩

theorem over : Rows.fnAtoiLargeBaseConcatRow.holds Try.pinned (OpenSpec.ofChange Rows.fnAtoiLargeBaseConcatSpec) :=
  OpenClaim.holds_of_wide 6 Try.f6 rfl rfl rfl rfl rfl rfl rfl ⟨rfl, rfl, rfl, rfl, rfl⟩ rfl rfl rfl rfl rfl (by kernel_rfl) Try.func6 (by kernel_rfl)
    (of_decide_eq_true (by kernel_rfl)) (by unfold Func.isWrapper; first | (rw [if_pos (by decide +kernel)]; kernel_rfl) | (rw [if_neg (by decide +kernel)]; exact ⟨rfl, rfl⟩))
    (fun os started H enc _ => lifted os started H enc)

/-- ████ THE STATEMENT ████ -/
theorem proved : Rows.FnAtoiLargeBaseConcatSaid :=
  over
#print axioms proved
end Go.Proofs.Ytefgeoadfjghaaa.fnAtoiLargeBaseConcat
