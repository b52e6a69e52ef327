/- Proved here: once HasMeta is true of a pattern, it is true of the pattern followed by any text (FnHasMetaKeptUnderAppend returns true). No conditions. -/
import Derived.Test.YtdiimpggoejphaaRows
import Derived.WalkKit
import Derived.WalkSpells
import Derived.WalkLawsBesides
import Derived.Lib.Hide
import Derived.ProofKit
import Derived.Below
import Derived.OpenShut
import Derived.ShutString
namespace Go.Proofs.Ytdiimpggoejphaa.fnHasMetaKeptUnderAppend
open Go.ChangeShapes Go.WideShapes Go.ChangeAt Go.RowKit
open Go.ChangeMaps (open_string shut_string)
set_option linter.unusedVariables false      -- a walk need not use every 'w<i>' (that an integer argument fits its kind)

theorem own : ownKnob Try.prog.godebug = none := by kernel_rfl

/-! ### STEP 1: THE WALK: the Go text returns true. 'Below w.heap.size w w'': the world has at most new blocks (Derived/RowKit3.lean). Part the cases AHEAD of 'go_enter' where a test parts the walk; take each callee by a contract of your own. -/
theorem ret_bool {a b : Bool} (h : a = b) : Ending.returned (.bool a) = .returned (.bool b) := by rw [h]
/-- HasMeta, byte by byte: 'esc' a backslash stands before, 'ob' an open bracket was seen -/
def hm : Bool → Bool → List UInt8 → Bool
  | _, _, [] => false
  | true, ob, _ :: r => hm false ob r
  | false, ob, c :: r =>
    if (c.toNat : Int) == 92 then hm true ob r
    else if (c.toNat : Int) == 42 || (c.toNat : Int) == 63 then true
    else if (c.toNat : Int) == 91 then hm false true r
    else if (c.toNat : Int) == 93 then (if ob then true else hm false ob r)
    else hm false ob r
theorem hm_append (a b : List UInt8) : ∀ (e ob : Bool), hm e ob a = true → hm e ob (a ++ b) = true := by
  induction a with
  | nil => intro e ob h; cases e <;> simp [hm] at h
  | cons c r ih =>
    intro e ob h
    cases e
    · simp only [hm, List.cons_append] at *
      split
      · rename_i h1; rw [if_pos h1] at h; exact ih _ _ h
      · rename_i h1
        rw [if_neg h1] at h
        split
        · rfl
        · rename_i h2
          rw [if_neg h2] at h
          split
          · rename_i h3; rw [if_pos h3] at h; exact ih _ _ h
          · rename_i h3
            rw [if_neg h3] at h
            split
            · rename_i h4
              rw [if_pos h4] at h
              split
              · rfl
              · rename_i h5; rw [if_neg h5] at h; exact ih _ _ h
            · rename_i h4; rw [if_neg h4] at h; exact ih _ _ h
    · simp only [hm, List.cons_append] at *
      exact ih _ _ h
theorem drop_at (s : ByteArray) (k : Nat) (h : k < s.size) : s.data.toList.drop k = s[k] :: s.data.toList.drop (k + 1) := by
  rw [List.drop_eq_getElem_cons (by simpa using h)]; rfl
theorem drop_end (s : ByteArray) (k : Nat) (h : ¬ k < s.size) : s.data.toList.drop k = [] := List.drop_eq_nil_of_le (by have h2 : s.data.toList.length = s.size := rfl; omega)
/-- the answer, kept shut -/
def metaB (s : ByteArray) : Bool := hm false false s.data.toList
/-- a backslash skips the next byte -/
theorem hm_esc (s : ByteArray) (k : Nat) (ob : Bool) (h : k < s.size) (h1 : ((s[k].toNat : Int) == 92) = true) : hm false ob (s.data.toList.drop k) = hm false ob (s.data.toList.drop (k + 2)) := by
  rw [drop_at s k h]
  simp only [hm]
  rw [if_pos h1]
  by_cases h2 : k + 1 < s.size
  · rw [drop_at s (k + 1) h2]; simp only [hm]
  · rw [drop_end s (k + 1) h2, drop_end s (k + 2) (by omega)]; simp [hm]
set_option maxHeartbeats 2000000 in
theorem meta_any (s : ByteArray) (w : World) (m : Int) (hs : s.size ≤ 1048576) :
    Calls Try.prog 12 #[.string s, .int .u64 m] w fun e w' => e = .returned (.bool (metaB s)) ∧ w = w' := by
  go_enter Try.func12, Try.ntmps12
  go_wp2
  go_loop [5, 6] (fun b i => ∃ (k : Nat) (ob : Bool), k ≤ s.size + 1 ∧ i = .int .i64 k ∧ b = .bool ob ∧ metaB s = hm false ob (s.data.toList.drop k)) (fun _ i => s.size + 1 - (intOf i).toNat)
  case atStart => exact ⟨0, false, by omega, rfl, rfl, rfl⟩
  case round =>
    obtain ⟨k, ob, hk, rfl, rfl, hN⟩ := hrel
    have HN := Lib.hid hN
    clear hN
    by_cases hlt : k < s.size
    · have HD : Hid (metaB s = hm false ob (s[k] :: s.data.toList.drop (k + 1))) := by rw [← drop_at s k hlt]; exact HN.out
      rcases Bool.eq_false_or_eq_true ((s[k].toNat : Int) == 92) with c1 | c1
      · have HE := Lib.hid (hm_esc s k ob hlt c1)
        go_wp2
        go_round
        case rel => exact ⟨k + 2, ob, by omega, by go_num, rfl, by rw [HN.out, HE.out]⟩
        case measure => simp [intOf]; omega
      rcases Bool.eq_false_or_eq_true ((s[k].toNat : Int) == 42) with c2 | c2
      · go_wp2
        go_ret
        exact ⟨ret_bool (by rw [HD.out]; simp [hm, c1, c2]), rfl⟩
      rcases Bool.eq_false_or_eq_true ((s[k].toNat : Int) == 63) with c3 | c3
      · go_wp2
        go_ret
        exact ⟨ret_bool (by rw [HD.out]; simp [hm, c1, c3]), rfl⟩
      rcases Bool.eq_false_or_eq_true ((s[k].toNat : Int) == 91) with c4 | c4
      · go_wp2
        go_round
        case rel => exact ⟨k + 1, true, by omega, by go_num, rfl, by rw [HD.out]; simp [hm, c1, c2, c3, c4]⟩
        case measure => simp [intOf]; omega
      rcases Bool.eq_false_or_eq_true ((s[k].toNat : Int) == 93) with c5 | c5
      · cases ob
        · go_wp2
          go_round
          case rel => exact ⟨k + 1, false, by omega, by go_num, rfl, by rw [HD.out]; simp [hm, c1, c2, c3, c4, c5]⟩
          case measure => simp [intOf]; omega
        · go_wp2
          go_ret
          exact ⟨ret_bool (by rw [HD.out]; simp [hm, c1, c2, c3, c4, c5]), rfl⟩
      · go_wp2
        go_round
        case rel => exact ⟨k + 1, ob, by omega, by go_num, rfl, by rw [HD.out]; simp [hm, c1, c2, c3, c4, c5]⟩
        case measure => simp [intOf]; omega
    · go_wp2
      go_ret
      exact ⟨ret_bool (by rw [HN.out, drop_end s k hlt]; simp [hm]), rfl⟩
theorem meta_append (a b : ByteArray) (h : metaB a = true) : metaB (a ++ b) = true := by
  have e : (a ++ b).data.toList = a.data.toList ++ b.data.toList := by simp
  unfold metaB at *
  rw [e]
  exact hm_append _ _ _ _ h
set_option maxHeartbeats 1000000 in
theorem walk (a0 : ByteArray) (a1 : ByteArray) (w0 : a0.size ≤ maxLen) (w1 : a1.size ≤ maxLen) (w : World) :
    Calls Try.prog 5 #[.string a0, .string a1] w fun e w' => e = .returned (.bool true) ∧ Below w.heap.size w w' := by
  unfold maxLen at w0 w1
  by_cases h1 : a0.size ≤ 65536
  · by_cases h2 : a1.size ≤ 65536
    · rcases Bool.eq_false_or_eq_true (metaB a0) with hm | hm
      · have hm2 := meta_append a0 a1 hm
        go_enter Try.func5, Try.ntmps5
        go_wp2_with (first | (go_at_call 11; go_in) | (go_at_call 12; refine (meta_any _ _ _ (by first | omega | (rw [ByteArray.size_append]; omega))).mono ?_; rintro e w' ⟨rfl, rfl⟩))
        go_ret
        exact ⟨rfl, Below.refl _ _⟩
      · go_enter Try.func5, Try.ntmps5
        go_wp2_with (first | (go_at_call 11; go_in) | (go_at_call 12; refine (meta_any _ _ _ (by first | omega | (rw [ByteArray.size_append]; omega))).mono ?_; rintro e w' ⟨rfl, rfl⟩))
        go_ret
        exact ⟨rfl, Below.refl _ _⟩
    · go_enter Try.func5, Try.ntmps5
      go_wp2
      all_goals
        go_ret
        exact ⟨rfl, Below.refl _ _⟩
  · go_enter Try.func5, Try.ntmps5
    go_wp2
    all_goals
      go_ret
      exact ⟨rfl, Below.refl _ _⟩

/-! ### THE ROW's STEP: WRITTEN OUT: LEAVE IT -/
set_option maxRecDepth 100000 in
theorem lifted (os : Os) (started : os.Started) (H : Type) (enc : TypeId × Value → H) :
    ReturnsInHanded {} Try.checked os 5 .any (Rows.fnHasMetaKeptUnderAppendSpec.pre6 enc Try.prog Try.f5 Rows.fnHasMetaKeptUnderAppendRow.domain false) (Rows.fnHasMetaKeptUnderAppendSpec.post enc Try.prog Try.f5 false true false false) := by
  refine returnsInHanded_of_change (C := Try.checked) own started (by kernel_rfl) Try.func5
    (ChangeSpec.witness6 (enc := enc) (C := Try.checked) false ⟨#[], #[.string ByteArray.empty, .string ByteArray.empty], []⟩ 8 (by kernel_rfl) (by kernel_rfl) (by kernel_rfl) (by kernel_rfl)) ?_
  intro W base args ds gs before hval0 hW hcnd _
  have hval : ∀ (j : Nat) t v, Try.f5.params[j]? = some t → args[j]? = some v → Value.okWide Try.prog W .any base t v := hval0
  have hW' := hW
  obtain ⟨p, q, hA0, hV, rfl, hfz, hnd⟩ := hW
  have hA : DataW.TrodAll enc Try.prog W 0 (fun _ => true) true Try.f5.params.toList args.toList ds p := hA0
  rw [Try.params5] at hA hval
  obtain ⟨v0, vs0, d0, ds0, p0, q0, hargs, rfl, rfl, h0, r0⟩ := trodAll_cons hA
  obtain ⟨v1, vs1, d1, ds1, p1, q1, rfl, rfl, rfl, h1, r1⟩ := trodAll_cons r0
  obtain ⟨rfl, rfl, rfl⟩ := trodAll_nil r1
  obtain rfl : args = #[v0, v1] := by cases args; simp_all
  obtain ⟨rfl, rfl⟩ := trodVars_none hV
  obtain ⟨a0, rfl, rfl, rfl, w0⟩ := open_string Try.underlying9 (hval 0 9 v0 rfl rfl) h0
  obtain ⟨a1, rfl, rfl, rfl, w1⟩ := open_string Try.underlying9 (hval 1 9 v1 rfl rfl) h1
  clear hA0 hval0
  simp only [List.append_nil] at hW'
  refine (walk a0 a1 w0 w1 W).mono fun e W' ⟨he, bel⟩ => ?_
  subst he
  exact ⟨_, rfl, _, _, _, [], [], [], hW', (trodAll_cons_mk (shut_bool Try.underlying4 _) trodAll_mk0), (trodAll_cons_mk (shut_string Try.underlying9 w0) (trodAll_cons_mk (shut_string Try.underlying9 w1) trodAll_mk0)), rfl, bel.frame _, fun h => by cases h⟩

theorem over : Rows.fnHasMetaKeptUnderAppendRow.holds Try.pinned (OpenSpec.ofChange Rows.fnHasMetaKeptUnderAppendSpec) :=
  OpenClaim.holds_of_wide 5 Try.f5 rfl rfl rfl rfl rfl rfl rfl ⟨rfl, rfl, rfl, rfl, rfl⟩ rfl rfl rfl rfl rfl (by kernel_rfl) Try.func5 (by kernel_rfl)
    (of_decide_eq_true (by kernel_rfl)) (by unfold Func.isWrapper; first | (rw [if_pos (by decide +kernel)]; kernel_rfl) | (rw [if_neg (by decide +kernel)]; exact ⟨rfl, rfl⟩))
    (fun os started H enc _ => lifted os started H enc)

/-- ████ THE STATEMENT ████ -/
theorem proved : Rows.FnHasMetaKeptUnderAppendSaid :=
  over
#print axioms proved
end Go.Proofs.Ytdiimpggoejphaa.fnHasMetaKeptUnderAppend
