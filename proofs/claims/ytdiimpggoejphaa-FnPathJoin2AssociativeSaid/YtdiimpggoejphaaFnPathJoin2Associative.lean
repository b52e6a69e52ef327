/- Proved here: pathJoin2 is associative and the empty string is its left identity (FnPathJoin2Associative returns true). No conditions. -/
import Derived.Test.YtdiimpggoejphaaRows
import Derived.WalkKit
import Derived.WalkSpells
import Derived.WalkLawsBesides
import Derived.Lib.Hide
import Derived.ProofKit
import Derived.Below
import Derived.OpenShut
import Derived.ShutString
namespace Go.Proofs.Ytdiimpggoejphaa.fnPathJoin2Associative
open Go.ChangeShapes Go.WideShapes Go.ChangeAt Go.RowKit
open Go.ChangeMaps (open_string shut_string)
set_option linter.unusedVariables false      -- a walk need not use every 'w<i>' (that an integer argument fits its kind)

theorem own : ownKnob Try.prog.godebug = none := by kernel_rfl

/-! ### STEP 1: THE WALK: the Go text returns true. 'Below w.heap.size w w'': the world has at most new blocks (Derived/RowKit3.lean). Part the cases AHEAD of 'go_enter' where a test parts the walk; take each callee by a contract of your own. -/
/-- does it end in a slash? (the walk's own form) -/
def endsB (s : ByteArray) : Bool := (s.extract (s.size - 1) s.size).toList == [47]
theorem ends_eq (s : ByteArray) (h : 1 ≤ s.size) : endsB s = (s.data.toList.getLast? == some 47) := by
  have hl : s.data.toList.length = s.size := rfl
  have hne : s.data.toList ≠ [] := by intro e; rw [e] at hl; simp at hl; omega
  have e : (s.extract (s.size - 1) s.size).data.toList = s.data.toList.drop (s.size - 1) := by
    rw [ByteArray.data_extract, Array.toList_extract]
    simp only [List.extract_eq_take_drop]
    rw [List.take_of_length_le (by rw [List.length_drop]; omega)]
  unfold endsB
  rw [ByteArray.toList_eq, e]
  obtain ⟨l', x, hx⟩ : ∃ l' x, s.data.toList = l' ++ [x] := ⟨_, _, (List.dropLast_concat_getLast hne).symm⟩
  have h2 : s.size - 1 = l'.length := by rw [← hl, hx]; simp
  rw [hx, h2]
  simp
def joinL (a b : List UInt8) : List UInt8 := if a = [] then b else if a.getLast? == some 47 then a ++ b else a ++ 47 :: b
theorem last_cons (b : List UInt8) (x : UInt8) : (47 :: (b ++ [x])).getLast? = some x := by
  rw [← List.cons_append, List.getLast?_append]; simp
theorem joinL_assoc (a b c : List UInt8) : joinL (joinL a b) c = joinL a (joinL b c) := by
  by_cases ha : a = []
  · subst ha; simp [joinL]
  · by_cases hb : b = []
    · subst hb
      by_cases h1 : a.getLast? == some 47
      · simp [joinL, ha, h1]
      · have : (a ++ [47]).getLast? = some 47 := by simp
        simp [joinL, ha, h1, this]
    · obtain ⟨b', x, rfl⟩ : ∃ b' x, b = b' ++ [x] := ⟨_, _, (List.dropLast_concat_getLast hb).symm⟩
      by_cases h1 : a.getLast? == some 47 <;> by_cases h2 : x = 47
      · simp [joinL, ha, h1, h2]
      · simp [joinL, ha, h1, h2]
      · have gl := last_cons b' x
        simp [joinL, ha, h1, h2] at gl ⊢
        simp [gl]
      · have gl := last_cons b' x
        simp [joinL, ha, h1, gl, h2]
/-- what pathJoin2 gives -/
def joinB (a b : ByteArray) : ByteArray := ⟨(joinL a.data.toList b.data.toList).toArray⟩
theorem joinB_list (a b : ByteArray) : (joinB a b).data.toList = joinL a.data.toList b.data.toList := by simp [joinB]
theorem joinB_assoc (a b c : ByteArray) : joinB (joinB a b) c = joinB a (joinB b c) := by
  apply bytes_inj
  rw [joinB_list, joinB_list, joinB_list, joinB_list, joinL_assoc]
theorem joinB_nil (a : ByteArray) : joinB ⟨#[]⟩ a = a := by
  apply bytes_inj
  rw [joinB_list]; simp [joinL]
theorem joinB_size (a b : ByteArray) : (joinB a b).size ≤ a.size + b.size + 1 := by
  have h1 : (joinB a b).data.toList.length = (joinB a b).size := rfl
  have h2 : a.data.toList.length = a.size := rfl
  have h3 : b.data.toList.length = b.size := rfl
  rw [joinB_list] at h1
  rw [← h1]
  unfold joinL
  split
  · omega
  · split
    · rw [List.length_append]; omega
    · rw [List.length_append, List.length_cons]; omega
theorem joinB_ends (a b : ByteArray) (h : 1 ≤ a.size) (he : endsB a = true) : a ++ b = joinB a b := by
  rw [ends_eq a h] at he
  have hl : a.data.toList.length = a.size := rfl
  have hne : a.data.toList ≠ [] := by intro e; rw [e] at hl; simp at hl; omega
  apply bytes_inj
  rw [joinB_list, joinL, if_neg hne, if_pos he]; simp
theorem joinB_no (a b : ByteArray) (h : 1 ≤ a.size) (he : endsB a = false) : a ++ ⟨#[47]⟩ ++ b = joinB a b := by
  rw [ends_eq a h] at he
  have hl : a.data.toList.length = a.size := rfl
  have hne : a.data.toList ≠ [] := by intro e; rw [e] at hl; simp at hl; omega
  apply bytes_inj
  rw [joinB_list, joinL, if_neg hne, if_neg (by rw [he]; decide)]; simp
theorem ret_bool {a b : Bool} (h : a = b) : Ending.returned (.bool a) = .returned (.bool b) := by rw [h]
theorem ret_str {a b : ByteArray} (h : a = b) : Ending.returned (.string a) = .returned (.string b) := by rw [h]
set_option maxHeartbeats 1000000 in
theorem suf_any (s : ByteArray) (w : World) (h : 1 ≤ s.size) (hs : s.size ≤ 10000000) :
    Calls Try.prog 15 #[.string s, .string ⟨#[47]⟩] w fun e w' => e = .returned (.bool (endsB s)) ∧ w = w' := by
  have i1 : (1 : Int) ≤ (s.size : Int) := by omega
  go_enter Try.func15, Try.ntmps15
  go_wp2
  go_ret
  exact ⟨rfl, rfl⟩
theorem not_empty (s : ByteArray) (h : 1 ≤ s.size) : s.toList.isEmpty = false := by
  rw [ByteArray.toList_eq]
  cases hh : s.data.toList with
  | nil => have hl : s.data.toList.length = s.size := rfl
           rw [hh] at hl; simp at hl; omega
  | cons a l => rfl
set_option maxHeartbeats 1000000 in
theorem join_any (a b : ByteArray) (w : World) (h : a.size + b.size ≤ 5000000) :
    Calls Try.prog 7 #[.string a, .string b] w fun e w' => e = .returned (.string (joinB a b)) ∧ w = w' := by
  by_cases h0 : a.size = 0
  · have he : a = ⟨#[]⟩ := by
      cases a with | mk d => cases d with | mk l => have : l = [] := List.length_eq_zero_iff.1 h0; rw [this]
    subst he
    rw [joinB_nil]
    go_enter Try.func7, Try.ntmps7
    go_wp2_with (go_at_call 13; go_in)
    go_ret
    exact ⟨rfl, rfl⟩
  · have h1 : 1 ≤ a.size := by omega
    have hie := not_empty a h1
    have hz1 : (⟨#[47]⟩ : ByteArray).size = 1 := rfl
    rcases Bool.eq_false_or_eq_true (endsB a) with he | he
    · have HJ := Lib.hid (joinB_ends a b h1 he)
      go_enter Try.func7, Try.ntmps7
      go_wp2_with (first | (go_at_call 13; go_in) | (go_at_call 15; refine (suf_any _ _ h1 (by omega)).mono ?_; rintro e w' ⟨rfl, rfl⟩))
      go_ret
      exact ⟨ret_str HJ.out, rfl⟩
    · have HJ := Lib.hid (joinB_no a b h1 he)
      go_enter Try.func7, Try.ntmps7
      go_wp2_with (first | (go_at_call 13; go_in) | (go_at_call 15; refine (suf_any _ _ h1 (by omega)).mono ?_; rintro e w' ⟨rfl, rfl⟩))
      go_ret
      exact ⟨ret_str HJ.out, rfl⟩
set_option maxHeartbeats 2000000 in
theorem walk (a0 : ByteArray) (a1 : ByteArray) (a2 : ByteArray) (w0 : a0.size ≤ maxLen) (w1 : a1.size ≤ maxLen) (w2 : a2.size ≤ maxLen) (w : World) :
    Calls Try.prog 3 #[.string a0, .string a1, .string a2] w fun e w' => e = .returned (.bool true) ∧ Below w.heap.size w w' := by
  unfold maxLen at w0 w1 w2
  by_cases h : a0.size + a1.size + a2.size ≤ 1048576
  · have hj := joinB_assoc a0 a1 a2
    have hn := joinB_nil a0
    have s1 := joinB_size a0 a1
    have s2 := joinB_size a1 a2
    have hz : (⟨#[]⟩ : ByteArray).size = 0 := rfl
    go_enter Try.func3, Try.ntmps3
    go_wp2_with (first | (go_at_call 6; go_in) | (go_at_call 7; refine (join_any _ _ _ (by omega)).mono ?_; rintro e w' ⟨rfl, rfl⟩))
    go_ret
    exact ⟨by simp, Below.refl _ _⟩
  · go_enter Try.func3, Try.ntmps3
    go_wp2
    all_goals
      go_ret
      exact ⟨rfl, Below.refl _ _⟩

/-! ### THE ROW's STEP: WRITTEN OUT: LEAVE IT -/
set_option maxRecDepth 100000 in
theorem lifted (os : Os) (started : os.Started) (H : Type) (enc : TypeId × Value → H) :
    ReturnsInHanded {} Try.checked os 3 .any (Rows.fnPathJoin2AssociativeSpec.pre6 enc Try.prog Try.f3 Rows.fnPathJoin2AssociativeRow.domain false) (Rows.fnPathJoin2AssociativeSpec.post enc Try.prog Try.f3 false true false false) := by
  refine returnsInHanded_of_change (C := Try.checked) own started (by kernel_rfl) Try.func3
    (ChangeSpec.witness6 (enc := enc) (C := Try.checked) false ⟨#[], #[.string ByteArray.empty, .string ByteArray.empty, .string ByteArray.empty], []⟩ 8 (by kernel_rfl) (by kernel_rfl) (by kernel_rfl) (by kernel_rfl)) ?_
  intro W base args ds gs before hval0 hW hcnd _
  have hval : ∀ (j : Nat) t v, Try.f3.params[j]? = some t → args[j]? = some v → Value.okWide Try.prog W .any base t v := hval0
  have hW' := hW
  obtain ⟨p, q, hA0, hV, rfl, hfz, hnd⟩ := hW
  have hA : DataW.TrodAll enc Try.prog W 0 (fun _ => true) true Try.f3.params.toList args.toList ds p := hA0
  rw [Try.params3] at hA hval
  obtain ⟨v0, vs0, d0, ds0, p0, q0, hargs, rfl, rfl, h0, r0⟩ := trodAll_cons hA
  obtain ⟨v1, vs1, d1, ds1, p1, q1, rfl, rfl, rfl, h1, r1⟩ := trodAll_cons r0
  obtain ⟨v2, vs2, d2, ds2, p2, q2, rfl, rfl, rfl, h2, r2⟩ := trodAll_cons r1
  obtain ⟨rfl, rfl, rfl⟩ := trodAll_nil r2
  obtain rfl : args = #[v0, v1, v2] := by cases args; simp_all
  obtain ⟨rfl, rfl⟩ := trodVars_none hV
  obtain ⟨a0, rfl, rfl, rfl, w0⟩ := open_string Try.underlying9 (hval 0 9 v0 rfl rfl) h0
  obtain ⟨a1, rfl, rfl, rfl, w1⟩ := open_string Try.underlying9 (hval 1 9 v1 rfl rfl) h1
  obtain ⟨a2, rfl, rfl, rfl, w2⟩ := open_string Try.underlying9 (hval 2 9 v2 rfl rfl) h2
  clear hA0 hval0
  simp only [List.append_nil] at hW'
  refine (walk a0 a1 a2 w0 w1 w2 W).mono fun e W' ⟨he, bel⟩ => ?_
  subst he
  exact ⟨_, rfl, _, _, _, [], [], [], hW', (trodAll_cons_mk (shut_bool Try.underlying4 _) trodAll_mk0), (trodAll_cons_mk (shut_string Try.underlying9 w0) (trodAll_cons_mk (shut_string Try.underlying9 w1) (trodAll_cons_mk (shut_string Try.underlying9 w2) trodAll_mk0))), rfl, bel.frame _, fun h => by cases h⟩

theorem over : Rows.fnPathJoin2AssociativeRow.holds Try.pinned (OpenSpec.ofChange Rows.fnPathJoin2AssociativeSpec) :=
  OpenClaim.holds_of_wide 3 Try.f3 rfl rfl rfl rfl rfl rfl rfl ⟨rfl, rfl, rfl, rfl, rfl⟩ rfl rfl rfl rfl rfl (by kernel_rfl) Try.func3 (by kernel_rfl)
    (of_decide_eq_true (by kernel_rfl)) (by unfold Func.isWrapper; first | (rw [if_pos (by decide +kernel)]; kernel_rfl) | (rw [if_neg (by decide +kernel)]; exact ⟨rfl, rfl⟩))
    (fun os started H enc _ => lifted os started H enc)

/-- ████ THE STATEMENT ████ -/
theorem proved : Rows.FnPathJoin2AssociativeSaid :=
  over
#print axioms proved
end Go.Proofs.Ytdiimpggoejphaa.fnPathJoin2Associative
