/- Proved here: for every non-empty string of decimal digits, hasLeadingZeros of it and of it behind a minus sign is true exactly when it starts with a zero and has more than one digit (FnHasLeadingZerosDigitsCanonical returns true). No conditions. -/
import Derived.Test.YthfjbbeecoeenaaRows
import Derived.WalkKit
import Derived.WalkSpells
import Derived.WalkLawsBesides
import Derived.Lib.Hide
import Derived.ProofKit
import Derived.Below
import Derived.OpenShut
import Derived.ShutString
namespace Go.Proofs.Ythfjbbeecoeenaa.fnHasLeadingZerosDigitsCanonical
open Go.ChangeShapes Go.WideShapes Go.ChangeAt Go.RowKit
open Go.ChangeMaps (open_string shut_string)
set_option linter.unusedVariables false      -- a walk need not use every 'w<i>' (that an integer argument fits its kind)

theorem own : ownKnob Try.prog.godebug = none := by kernel_rfl

/-! ### STEP 1: THE WALK: the Go text returns true. 'Below w.heap.size w w'': the world has at most new blocks (Derived/RowKit3.lean). Part the cases AHEAD of 'go_enter' where a test parts the walk; take each callee by a contract of your own. -/
theorem ret_bool {a b : Bool} (h : a = b) : Ending.returned (.bool a) = .returned (.bool b) := by rw [h]
/-- not canonical: more than one digit, the first a zero -/
def zB (d : ByteArray) : Bool := if h : 1 < d.size then ((d[0].toNat : Int) == 48) else false
theorem zB_one {d : ByteArray} (h : ¬ 1 < d.size) : zB d = false := dif_neg h
theorem zB_at {d : ByteArray} (h : 1 < d.size) : zB d = ((d[0].toNat : Int) == 48) := dif_pos h
theorem pre_of (X : ByteArray) (h : 1 ≤ X.size) : (X.extract 0 1).toList = [X[0]] := by
  rw [ByteArray.toList_eq, ByteArray.data_extract, Array.toList_extract]
  simp only [List.extract_eq_take_drop, List.drop_zero]
  obtain ⟨⟨l⟩⟩ := X
  cases l with
  | nil => exact absurd h (by decide)
  | cons a l => rfl
set_option maxHeartbeats 1000000 in
/-- no minus sign in front -/
theorem hlz_plain (d : ByteArray) (w : World) (h : 1 ≤ d.size) (hs : d.size ≤ 1048576) (h0 : d[0].toNat ≠ 45) :
    Calls Try.prog 24 #[.string d] w fun e w' => e = .returned (.bool (zB d)) ∧ w = w' := by
  have hp : ((d.extract 0 1).toList == [45]) = false := by
    rw [pre_of d h]
    simp only [List.cons_beq_cons, ne_eq, Bool.and_eq_true, beq_iff_eq, not_and, Bool.eq_false_iff]
    intro e
    exact absurd (congrArg UInt8.toNat e) h0
  have i1 : (1 : Int) ≤ (d.size : Int) := by omega
  by_cases h1 : 1 < d.size
  · rw [zB_at h1]
    have i2 : (1 : Int) < (d.size : Int) := by omega
    go_enter Try.func24, Try.ntmps24
    go_wp2
    go_ret
    exact ⟨rfl, rfl⟩
  · rw [zB_one h1]
    go_enter Try.func24, Try.ntmps24
    go_wp2
    go_ret
    exact ⟨rfl, rfl⟩
set_option maxHeartbeats 1000000 in
/-- a minus sign in front -/
theorem hlz_minus (X d : ByteArray) (w : World) (hX : 1 ≤ X.size) (hXs : X.size ≤ 1048577) (hp : ((X.extract 0 1).toList == [45]) = true) (hr : X.extract 1 X.size = d) (h : 1 ≤ d.size) :
    Calls Try.prog 24 #[.string X] w fun e w' => e = .returned (.bool (zB d)) ∧ w = w' := by
  have i1 : (1 : Int) ≤ (X.size : Int) := by omega
  by_cases h1 : 1 < d.size
  · rw [zB_at h1]
    have i2 : (1 : Int) < (d.size : Int) := by omega
    go_enter Try.func24, Try.ntmps24
    go_wp2
    go_ret
    exact ⟨rfl, rfl⟩
  · rw [zB_one h1]
    go_enter Try.func24, Try.ntmps24
    go_wp2
    go_ret
    exact ⟨rfl, rfl⟩
theorem minus_pre (d : ByteArray) : (((⟨#[45]⟩ : ByteArray) ++ d).extract 0 1).toList == [45] := by
  rw [pre_of _ (by rw [ByteArray.size_append]; have : (⟨#[45]⟩ : ByteArray).size = 1 := rfl; omega)]
  obtain ⟨⟨l⟩⟩ := d
  rfl
theorem minus_rest (d : ByteArray) : ((⟨#[45]⟩ : ByteArray) ++ d).extract 1 ((⟨#[45]⟩ : ByteArray) ++ d).size = d := by
  apply bytes_inj
  rw [ByteArray.data_extract, Array.toList_extract, ByteArray.data_append, Array.toList_append, ByteArray.size_append]
  simp only [List.extract_eq_take_drop]
  have e1 : (⟨#[45]⟩ : ByteArray).size = 1 := rfl
  rw [e1]
  have hl : d.data.toList.length = d.size := rfl
  rw [show List.drop 1 ([45] ++ d.data.toList) = d.data.toList from rfl]
  exact List.take_of_length_le (by omega)
theorem digit_ne {c : UInt8} (h : 48 ≤ c.toNat) : c.toNat ≠ 45 := by omega
set_option maxHeartbeats 2000000 in
theorem walk (a0 : ByteArray) (w0 : a0.size ≤ maxLen) (w : World) :
    Calls Try.prog 6 #[.string a0] w fun e w' => e = .returned (.bool true) ∧ Below w.heap.size w w' := by
  unfold maxLen at w0
  by_cases hs : a0.size ≤ 1048576
  · by_cases h0 : a0.size = 0
    · have hz : ((a0.size : Int) == 0) = true := by rw [beq_iff_eq]; omega
      go_enter Try.func6, Try.ntmps6
      go_wp2
      go_ret
      exact ⟨rfl, Below.refl _ _⟩
    · have hz : ((a0.size : Int) == 0) = false := by rw [beq_eq_false_iff_ne]; omega
      have hp : 1 ≤ a0.size := by omega
      have hz45 : (⟨#[45]⟩ : ByteArray).size = 1 := rfl
      clear h0
      go_enter Try.func6, Try.ntmps6
      go_wp2
      go_loop [3] (fun i => ∃ k : Nat, k ≤ a0.size ∧ i = .int .i64 k ∧ (0 < k → 48 ≤ a0[0].toNat)) (fun i => a0.size - (intOf i).toNat)
      case atStart => exact ⟨0, by omega, rfl, fun h => by omega⟩
      case round =>
        obtain ⟨k, hk, rfl, hd⟩ := hrel
        have HD := Lib.hid hd
        clear hd
        by_cases hlt : k < a0.size
        · by_cases d1 : (a0[k].toNat : Int) < 48
          · go_wp2
            go_ret
            exact ⟨rfl, Below.refl _ _⟩
          by_cases d2 : (57 : Int) < (a0[k].toNat : Int)
          · go_wp2
            go_ret
            exact ⟨rfl, Below.refl _ _⟩
          have HK : Hid (k = 0 → 48 ≤ a0[0].toNat) := fun e => by subst e; omega
          go_wp2
          go_round
          case rel => exact ⟨k + 1, by omega, by go_num, fun _ => by
            by_cases e : k = 0
            · exact HK.out e
            · exact HD.out (by omega)⟩
          case measure => simp [intOf]; omega
        · have HG := Lib.hid (digit_ne (HD.out (by omega)))
          clear HD
          go_wp2
          go_loop [4] (fun i => ∃ j : Nat, j < a0.size ∧ i = .int .i64 j ∧ (0 < j → zB a0 = true)) (fun i => a0.size - (intOf i).toNat)
          case atStart => exact ⟨0, by omega, rfl, fun h => by omega⟩
          case round =>
            obtain ⟨j, hj, rfl, hzz⟩ := hrel
            have HZ := Lib.hid hzz
            clear hzz
            by_cases hc : j + 1 < a0.size ∧ ((a0[j].toNat : Int) == 48) = true
            · obtain ⟨hc1, hc2⟩ := hc
              have hj1 : (j : Int) < (a0.size : Int) - 1 := by omega
              have HK : Hid (j = 0 → zB a0 = true) := fun e => by subst e; rw [zB_at (by omega)]; exact hc2
              go_wp2
              go_round
              case rel => exact ⟨j + 1, by omega, by go_num, fun _ => by
                by_cases e : j = 0
                · exact HK.out e
                · exact HZ.out (by omega)⟩
              case measure => simp [intOf]; omega
            · have HF : Hid (zB a0 = decide (0 < j)) := by
                by_cases e : j = 0
                · subst e
                  by_cases h1 : 1 < a0.size
                  · rw [zB_at h1]
                    have : ¬ ((a0[0].toNat : Int) == 48) = true := fun h => hc ⟨by omega, h⟩
                    rw [Bool.eq_false_iff.mpr this]; rfl
                  · rw [zB_one h1]; rfl
                · rw [HZ.out (by omega)]; exact (decide_eq_true (p := 0 < j) (by omega)).symm
              clear HZ
              have hxs : ((⟨#[45]⟩ : ByteArray) ++ a0).size = 1 + a0.size := by rw [ByteArray.size_append, hz45]
              by_cases hj1 : (j : Int) < (a0.size : Int) - 1
              · have hc2 : ((a0[j].toNat : Int) == 48) = false := by
                  rw [Bool.eq_false_iff]; intro h; exact hc ⟨by omega, h⟩
                clear hc
                go_wp2_with (first
                  | (go_at_call 24
                     refine (hlz_plain _ _ hp hs HG.out).mono ?_
                     rintro _ _ ⟨rfl, rfl⟩
                     rw [HF.out])
                  | (go_at_call 24
                     refine (hlz_minus _ a0 _ (by omega) (by omega) (minus_pre a0) (minus_rest a0) hp).mono ?_
                     rintro _ _ ⟨rfl, rfl⟩
                     rw [HF.out]))
                go_ret
                exact ⟨by simp, Below.refl _ _⟩
              · clear hc
                go_wp2_with (first
                  | (go_at_call 24
                     refine (hlz_plain _ _ hp hs HG.out).mono ?_
                     rintro _ _ ⟨rfl, rfl⟩
                     rw [HF.out])
                  | (go_at_call 24
                     refine (hlz_minus _ a0 _ (by omega) (by omega) (minus_pre a0) (minus_rest a0) hp).mono ?_
                     rintro _ _ ⟨rfl, rfl⟩
                     rw [HF.out]))
                go_ret
                exact ⟨by simp, Below.refl _ _⟩
  · go_enter Try.func6, Try.ntmps6
    go_wp2
    go_ret
    exact ⟨rfl, Below.refl _ _⟩

/-! ### THE ROW's STEP: WRITTEN OUT: LEAVE IT -/
set_option maxRecDepth 100000 in
theorem lifted (os : Os) (started : os.Started) (H : Type) (enc : TypeId × Value → H) :
    ReturnsInHanded {} Try.checked os 6 .any (Rows.fnHasLeadingZerosDigitsCanonicalSpec.pre6 enc Try.prog Try.f6 Rows.fnHasLeadingZerosDigitsCanonicalRow.domain false) (Rows.fnHasLeadingZerosDigitsCanonicalSpec.post enc Try.prog Try.f6 false true false false) := by
  refine returnsInHanded_of_change (C := Try.checked) own started (by kernel_rfl) Try.func6
    (ChangeSpec.witness6 (enc := enc) (C := Try.checked) false ⟨#[], #[.string ByteArray.empty], []⟩ 8 (by kernel_rfl) (by kernel_rfl) (by kernel_rfl) (by kernel_rfl)) ?_
  intro W base args ds gs before hval0 hW hcnd _
  have hval : ∀ (j : Nat) t v, Try.f6.params[j]? = some t → args[j]? = some v → Value.okWide Try.prog W .any base t v := hval0
  have hW' := hW
  obtain ⟨p, q, hA0, hV, rfl, hfz, hnd⟩ := hW
  have hA : DataW.TrodAll enc Try.prog W 0 (fun _ => true) true Try.f6.params.toList args.toList ds p := hA0
  rw [Try.params6] at hA hval
  obtain ⟨v0, vs0, d0, ds0, p0, q0, hargs, rfl, rfl, h0, r0⟩ := trodAll_cons hA
  obtain ⟨rfl, rfl, rfl⟩ := trodAll_nil r0
  obtain rfl : args = #[v0] := by cases args; simp_all
  obtain ⟨rfl, rfl⟩ := trodVars_none hV
  obtain ⟨a0, rfl, rfl, rfl, w0⟩ := open_string Try.underlying9 (hval 0 9 v0 rfl rfl) h0
  clear hA0 hval0
  simp only [List.append_nil] at hW'
  refine (walk a0 w0 W).mono fun e W' ⟨he, bel⟩ => ?_
  subst he
  exact ⟨_, rfl, _, _, _, [], [], [], hW', (trodAll_cons_mk (shut_bool Try.underlying4 _) trodAll_mk0), (trodAll_cons_mk (shut_string Try.underlying9 w0) trodAll_mk0), rfl, bel.frame _, fun h => by cases h⟩

theorem over : Rows.fnHasLeadingZerosDigitsCanonicalRow.holds Try.pinned (OpenSpec.ofChange Rows.fnHasLeadingZerosDigitsCanonicalSpec) :=
  OpenClaim.holds_of_wide 6 Try.f6 rfl rfl rfl rfl rfl rfl rfl ⟨rfl, rfl, rfl, rfl, rfl⟩ rfl rfl rfl rfl rfl (by kernel_rfl) Try.func6 (by kernel_rfl)
    (of_decide_eq_true (by kernel_rfl)) (by unfold Func.isWrapper; first | (rw [if_pos (by decide +kernel)]; kernel_rfl) | (rw [if_neg (by decide +kernel)]; exact ⟨rfl, rfl⟩))
    (fun os started H enc _ => lifted os started H enc)

/-- ████ THE STATEMENT ████ -/
theorem proved : Rows.FnHasLeadingZerosDigitsCanonicalSaid :=
  over
#print axioms proved
end Go.Proofs.Ythfjbbeecoeenaa.fnHasLeadingZerosDigitsCanonical
