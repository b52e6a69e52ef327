/- Proved here: for every int l, LangVariant(l).count() is the number of set bits among the low 32 bits of l (FnCountIsPopcount returns true). No conditions. -/
import Derived.Test.YtmojheonollpeaaRows
import Derived.WalkKit
import Derived.Test.YtmojheonollpeaaPos
import Derived.Test.YtmojheonollpeaaPop
import Derived.Deep.QuietTactic
import Derived.BigQuiet
import Derived.Lib.Tables
import Derived.ProofKit
import Derived.Below
import Derived.OpenShut
import Derived.ShutString
namespace Go.Proofs.Ytmojheonollpeaa.fnCountIsPopcount
open Go.ChangeShapes Go.WideShapes Go.ChangeAt Go.RowKit
open Go.ChangeMaps (open_string shut_string)
set_option linter.unusedVariables false      -- a walk need not use every 'w<i>' (that an integer argument fits its kind)

theorem own : ownKnob Try.prog.godebug = none := by kernel_rfl

/-! ### STEP 1: THE WALK: the Go text returns true. 'Below w.heap.size w w'': the world has at most new blocks (Derived/RowKit3.lean). Part the cases AHEAD of 'go_enter' where a test parts the walk; take each callee by a contract of your own. -/
theorem and255 (x : Int) (h0 : 0 ≤ x) (h1 : x ≤ 4294967295) : bits .and .u32 x 255 = x % 256 := by
  obtain ⟨X, rfl⟩ := Int.eq_ofNat_of_zero_le h0
  rw [u32_and _ _ (by omega) (by omega) (by omega) (by omega)]
  simp only [Int.toNat_natCast]
  have h := Nat.and_two_pow_sub_one_eq_mod X 8
  have e : (255 : Int).toNat = 2 ^ 8 - 1 := by decide
  rw [e, h]
  omega
theorem pop8_fin : ∀ n : Fin 256, Lib.pop8 (n.val : Int) = (pcF 8 n.val : Int) := by decide +kernel
theorem pop8_pc (i : Int) (h0 : 0 ≤ i) (h1 : i < 256) : Lib.pop8 i = (pcF 8 i.toNat : Int) := by
  obtain ⟨I, rfl⟩ := Int.eq_ofNat_of_zero_le h0
  exact pop8_fin ⟨I, by omega⟩
theorem pop8_bd (i : Int) (h0 : 0 ≤ i) (h1 : i < 256) : 0 ≤ Lib.pop8 i ∧ Lib.pop8 i ≤ 8 := by
  rw [pop8_pc i h0 h1]
  have := pcF_le 8 i.toNat
  omega
theorem pop_sum (x : Int) (h0 : 0 ≤ x) (h1 : x ≤ 4294967295) : Lib.pop8 (x / 16777216) + Lib.pop8 (x / 65536 % 256) + Lib.pop8 (x / 256 % 256) + Lib.pop8 (x % 256) = (pcF 32 x.toNat : Int) := by
  rw [pop8_pc _ (by omega) (by omega), pop8_pc _ (by omega) (by omega), pop8_pc _ (by omega) (by omega), pop8_pc _ (by omega) (by omega), pc32]
  obtain ⟨X, rfl⟩ := Int.eq_ofNat_of_zero_le h0
  have e1 : ((X : Int) / 16777216).toNat = X / 16777216 := by omega
  have e2 : ((X : Int) / 65536 % 256).toNat = X / 65536 % 256 := by omega
  have e3 : ((X : Int) / 256 % 256).toNat = X / 256 % 256 := by omega
  have e4 : ((X : Int) % 256).toNat = X % 256 := by omega
  rw [e1, e2, e3, e4, Int.toNat_natCast]
  omega
theorem ret_i64 {a b : Int} (h : a = b) : Ending.returned (.int .i64 a) = .returned (.int .i64 b) := by rw [h]
set_option maxHeartbeats 1000000 in
set_option maxRecDepth 100000 in
theorem ones_any (x : Int) (w : World) (h0 : 0 ≤ x) (h1 : x ≤ 4294967295) :
    Calls Try.prog 31 #[.int .u32 x] w fun e w' => e = .returned (.int .i64 (pcF 32 x.toNat : Int)) ∧ Below w.heap.size w w' := by
  have q1 := and255 (x / 65536) (by omega) (by omega)
  have q2 := and255 (x / 256) (by omega) (by omega)
  have q3 := and255 x h0 h1
  have r0 : 0 ≤ x / 16777216 := by omega
  have r1 : x / 16777216 ≤ 255 := by omega
  have s0 := pop8_bd (x / 16777216) (by omega) (by omega)
  have s1 := pop8_bd (x / 65536 % 256) (by omega) (by omega)
  have s2 := pop8_bd (x / 256 % 256) (by omega) (by omega)
  have s3 := pop8_bd (x % 256) (by omega) (by omega)
  go_enter Try.func31, Try.ntmps31
  go_wp2
  go_quiet (fail)
  go_wp2
  go_ret
  exact ⟨ret_i64 (pop_sum x h0 h1), below_drewN (Below.refl _ _) _⟩
set_option maxHeartbeats 1000000 in
theorem count_any (x : Int) (w : World) :
    Calls Try.prog 9 #[.int .i64 x] w fun e w' => e = .returned (.int .i64 (pcF 32 (x % 4294967296).toNat : Int)) ∧ Below w.heap.size w w' := by
  have h0 : 0 ≤ x % 4294967296 := by omega
  have h1 : x % 4294967296 ≤ 4294967295 := by omega
  go_enter Try.func9, Try.ntmps9
  go_wp2_with (first | (go_at_call 31; refine (ones_any _ _ h0 h1).mono ?_; rintro e w1 ⟨rfl, hb1⟩) | (go_at_call 27; go_in))
  go_ret
  exact ⟨rfl, hb1⟩
theorem and_pred (u : Int) (h0 : 1 ≤ u) (h1 : u ≤ 4294967295) : bits .and .u32 u (u - 1) = ((u.toNat &&& (u.toNat - 1) : Nat) : Int) := by
  rw [u32_and _ _ (by omega) (by omega) (by omega) (by omega), show (u - 1).toNat = u.toNat - 1 by omega]
set_option maxHeartbeats 1000000 in
theorem pop_any (u : Int) (w : World) (h0 : 0 ≤ u) (h1 : u ≤ 4294967295) :
    Calls Try.prog 10 #[.int .u32 u] w fun e w' => e = .returned (.int .i64 (pcF 32 u.toNat : Int)) ∧ w = w' := by
  go_enter Try.func10, Try.ntmps10
  go_wp2
  go_loop [0, 3] (fun x n => ∃ (X : Nat) (k : Nat), X ≤ 4294967295 ∧ k ≤ 32 ∧ x = .int .u32 X ∧ n = .int .i64 k ∧ k + pcF 32 X = pcF 32 u.toNat) (fun x _ => (intOf x).toNat)
  case atStart => exact ⟨u.toNat, 0, by omega, by omega, by rw [Int.toNat_of_nonneg h0], rfl, by omega⟩
  case round =>
    obtain ⟨X, k, hX, hk, rfl, rfl, hsum⟩ := hrel
    have HS := Lib.hid hsum
    clear hsum
    by_cases hz : X = 0
    · subst hz
      go_wp2
      go_ret
      exact ⟨ret_i64 (by have := HS.out; rw [pcF_zero] at this; omega), rfl⟩
    · have hn : ((X : Int) != 0) = true := by simpa using hz
      have hp : (1 : Int) ≤ X := by omega
      have ha := and_pred X hp (by omega)
      rw [Int.toNat_natCast] at ha
      have HCl := Lib.hid (pcF_clear 32 X (by omega) (by omega))
      have hle : X &&& (X - 1) ≤ X - 1 := Nat.and_le_right
      have HB := Lib.hid (pcF_le 32 u.toNat)
      obtain ⟨Y, hY⟩ : ∃ Y, Y = X &&& (X - 1) := ⟨_, rfl⟩
      rw [← hY] at ha hle
      have HY := Lib.hid hY
      clear hY hz
      go_wp2
      go_round
      case rel =>
        refine ⟨Y, k + 1, by omega, ?_, rfl, by go_num, ?_⟩
        · have := HS.out; have := HCl.out; have := HB.out; rw [← HY.out] at *; omega
        · have := HS.out; have := HCl.out; rw [← HY.out] at *; omega
      case measure => simp [intOf]; omega
set_option maxHeartbeats 1000000 in
theorem walk (a0 : Int) (w0 : (Lit.int .i64 a0).wf = true) (w : World) :
    Calls Try.prog 3 #[.int .i64 a0] w fun e w' => e = .returned (.bool true) ∧ Below w.heap.size w w' := by
  have h0 : 0 ≤ a0 % 4294967296 := by omega
  have h1 : a0 % 4294967296 ≤ 4294967295 := by omega
  go_enter Try.func3, Try.ntmps3
  go_wp2_with (first | (go_at_call 9; refine (count_any _ _).mono ?_; rintro e w1 ⟨rfl, hb1⟩) | (go_at_call 10; refine (pop_any _ _ h0 h1).mono ?_; rintro e w2 ⟨rfl, rfl⟩))
  go_ret
  exact ⟨by simp, hb1⟩

/-! ### THE ROW's STEP: WRITTEN OUT: LEAVE IT -/
set_option maxRecDepth 100000 in
theorem lifted (os : Os) (started : os.Started) (H : Type) (enc : TypeId × Value → H) :
    ReturnsInHanded {} Try.checked os 3 .any (Rows.fnCountIsPopcountSpec.pre6 enc Try.prog Try.f3 Rows.fnCountIsPopcountRow.domain false) (Rows.fnCountIsPopcountSpec.post enc Try.prog Try.f3 false true false false) := by
  refine returnsInHanded_of_change (C := Try.checked) own started (by kernel_rfl) Try.func3
    (ChangeSpec.witness6 (enc := enc) (C := Try.checked) false ⟨#[], #[.int .i64 0], []⟩ 8 (by kernel_rfl) (by kernel_rfl) (by kernel_rfl) (by kernel_rfl)) ?_
  intro W base args ds gs before hval0 hW hcnd _
  have hval : ∀ (j : Nat) t v, Try.f3.params[j]? = some t → args[j]? = some v → Value.okWide Try.prog W .any base t v := hval0
  have hW' := hW
  obtain ⟨p, q, hA0, hV, rfl, hfz, hnd⟩ := hW
  have hA : DataW.TrodAll enc Try.prog W 0 (fun _ => true) true Try.f3.params.toList args.toList ds p := hA0
  rw [Try.params3] at hA hval
  obtain ⟨v0, vs0, d0, ds0, p0, q0, hargs, rfl, rfl, h0, r0⟩ := trodAll_cons hA
  obtain ⟨rfl, rfl, rfl⟩ := trodAll_nil r0
  obtain rfl : args = #[v0] := by cases args; simp_all
  obtain ⟨rfl, rfl⟩ := trodVars_none hV
  obtain ⟨a0, rfl, rfl, rfl, w0⟩ := open_int Try.underlying3 (hval 0 3 v0 rfl rfl) h0
  clear hA0 hval0
  simp only [List.append_nil] at hW'
  refine (walk a0 w0 W).mono fun e W' ⟨he, bel⟩ => ?_
  subst he
  exact ⟨_, rfl, _, _, _, [], [], [], hW', (trodAll_cons_mk (shut_bool Try.underlying4 _) trodAll_mk0), (trodAll_cons_mk (shut_int Try.underlying3 w0) trodAll_mk0), rfl, bel.frame _, fun h => by cases h⟩

theorem over : Rows.fnCountIsPopcountRow.holds Try.pinned (OpenSpec.ofChange Rows.fnCountIsPopcountSpec) :=
  OpenClaim.holds_of_wide 3 Try.f3 rfl rfl rfl rfl rfl rfl rfl ⟨rfl, rfl, rfl, rfl, rfl⟩ rfl rfl rfl rfl rfl (by kernel_rfl) Try.func3 (by kernel_rfl)
    (of_decide_eq_true (by kernel_rfl)) (by unfold Func.isWrapper; first | (rw [if_pos (by decide +kernel)]; kernel_rfl) | (rw [if_neg (by decide +kernel)]; exact ⟨rfl, rfl⟩))
    (fun os started H enc _ => lifted os started H enc)

/-- ████ THE STATEMENT ████ -/
theorem proved : Rows.FnCountIsPopcountSaid :=
  over
#print axioms proved
end Go.Proofs.Ytmojheonollpeaa.fnCountIsPopcount
