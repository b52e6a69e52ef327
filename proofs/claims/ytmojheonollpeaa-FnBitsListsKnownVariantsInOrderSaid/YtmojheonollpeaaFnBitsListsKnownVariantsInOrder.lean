/- Proved here: for every int l, bits() yields exactly the known variants that share a bit with l, in their order (FnBitsListsKnownVariantsInOrder returns true). No conditions. -/
import Derived.Test.YtmojheonollpeaaRows
import Derived.WalkKit
import Derived.Test.YtmojheonollpeaaBitsL
import Derived.Test.YtmojheonollpeaaSlices
import Derived.Deep.QuietTactic
import Derived.BigQuiet
import Derived.WalkSpells
import Derived.ProofKit
import Derived.Below
import Derived.OpenShut
import Derived.ShutString
namespace Go.Proofs.Ytmojheonollpeaa.fnBitsListsKnownVariantsInOrder
open Go.ChangeShapes Go.WideShapes Go.ChangeAt Go.RowKit
open Go.ChangeMaps (open_string shut_string)
set_option linter.unusedVariables false      -- a walk need not use every 'w<i>' (that an integer argument fits its kind)

theorem own : ownKnob Try.prog.godebug = none := by kernel_rfl

/-! ### STEP 1: THE WALK: the Go text returns true. 'Below w.heap.size w w'': the world has at most new blocks (Derived/RowKit3.lean). Part the cases AHEAD of 'go_enter' where a test parts the walk; take each callee by a contract of your own. -/
open BL
/-- what zzBitsList hands back -/
def Got (l : Int) (w : World) (e : Ending) (w' : World) : Prop := ∃ (A : Option Addr) (n c : Nat), e = .returned (.slice A n c) ∧ n = (all l).length ∧ n ≤ 5 ∧ IRow .i64 w' A n (fun i => (all l).getD i 0) ∧ Below w.heap.size w w'
theorem list_any (l : Int) (w : World) : Calls Try.prog 19 #[.int .i64 l] w (Got l w) := by
  refine (callsIn_wide.1 (list_in Fence.wide 4 trivial trivial trivial trivial rfl (Nat.le_refl _) l w)).mono ?_
  rintro e w' ⟨v, rfl, hr, hb⟩
  have hle := all_le l
  have hrow := hr
  rcases hr.2 with ⟨rfl, h0⟩ | ⟨g, cap, _, rfl, _⟩
  · exact ⟨none, 0, 0, rfl, h0.symm, by omega, fun i hi => absurd hi (Nat.not_lt_zero i), hb⟩
  · refine ⟨_, _, _, rfl, rfl, hle, fun i hi => ⟨_, rfl, ?_⟩, hb⟩
    have := hrow.cellAt i (by omega)
    rw [List.getElem?_map, List.getElem?_eq_getElem hi] at this
    show _ = some (Value.int .i64 ((all l).getD i 0))
    rw [List.getD_eq_getElem?_getD, List.getElem?_eq_getElem hi]
    have e : (⟨g, 0, none⟩ : Addr).add i = ⟨g, i, none⟩ := by unfold Addr.add; split <;> simp_all
    rw [e, this]; rfl
theorem known_any (w : World) : Calls Try.prog 18 #[] w fun e w' => e = .returned (.agg #[.int .i64 1, .int .i64 2, .int .i64 4, .int .i64 8, .int .i64 16]) ∧ w.alloc (.cells #[.int .i64 1, .int .i64 2, .int .i64 4, .int .i64 8, .int .i64 16] 36) = w' := by
  go_enter Try.func18, Try.ntmps18
  go_wp2
  exact bodyPost_ret (v := .agg #[.int .i64 1, .int .i64 2, .int .i64 4, .int .i64 8, .int .i64 16]) (by simp [results, Try.results18, go_sem]) rfl ⟨rfl, rfl⟩
/-- the round number k -/
def Ix (k : Nat) (z : Int) : Prop := (k = 0 ∧ z = 0) ∨ (k = 1 ∧ z = 1) ∨ (k = 2 ∧ z = 2) ∨ (k = 3 ∧ z = 3) ∨ (k = 4 ∧ z = 4) ∨ (k = 5 ∧ z = 5)
def Rel (l : Int) (w1 : World) (vj vi : Value) (wr : World) : Prop := ∃ (k : Nat) (z : Int) (j q : Nat), Ix k z ∧ vi = .int .i64 z ∧ vj = .int .i64 j ∧ j = (upto l k).length ∧ wr = w1.drewN q
set_option maxRecDepth 100000 in
set_option maxHeartbeats 4000000 in
theorem walk (a0 : Int) (w0 : (Lit.int .i64 a0).wf = true) (w : World) :
    Calls Try.prog 6 #[.int .i64 a0] w fun e w' => e = .returned (.bool true) ∧ Below w.heap.size w w' := by
  have hle := all_le a0
  go_enter Try.func6, Try.ntmps6
  go_wp2_with (first
    | (go_at_call 18; refine (known_any _).mono ?_; rintro e w' ⟨rfl, rfl⟩)
    | (go_at_call 19; refine (list_any _ _).mono ?_; rintro e w1 ⟨A, n, c, rfl, hn, hn5, hrow, hb⟩; have HN := Lib.hid hn; have HR := Lib.hid hrow; clear hn hrow))
  have HB := Lib.hid ((((Below.refl w.heap.size w).alloc (Nat.le_refl _) _).alloc (by simp) _).trans (hb.mono (by simp <;> omega)))
  have c0 : w1.cell? ⟨w.heap.size + 1, 0, none⟩ = some (.int .i64 1) := cell_later hb (by go_simp)
  have c1 : w1.cell? ⟨w.heap.size + 1, 1, none⟩ = some (.int .i64 2) := cell_later hb (by go_simp)
  have c2 : w1.cell? ⟨w.heap.size + 1, 2, none⟩ = some (.int .i64 4) := cell_later hb (by go_simp)
  have c3 : w1.cell? ⟨w.heap.size + 1, 3, none⟩ = some (.int .i64 8) := cell_later hb (by go_simp)
  have c4 : w1.cell? ⟨w.heap.size + 1, 4, none⟩ = some (.int .i64 16) := cell_later hb (by go_simp)
  clear hb
  go_loopw [6, 7] (fun vj vi wr => Rel a0 w1 vj vi wr) (fun _ vi _ => 5 - (intOf vi).toNat)
  case atStart => exact ⟨0, 0, 0, 0, .inl ⟨rfl, rfl⟩, rfl, rfl, rfl, rfl⟩
  case round =>
    obtain ⟨k, z, j, q, hz, rfl, rfl, hj, rfl⟩ := hrel
    have HJ := Lib.hid hj
    clear hj
    rcases hz with ⟨rfl, rfl⟩ | ⟨rfl, rfl⟩ | ⟨rfl, rfl⟩ | ⟨rfl, rfl⟩ | ⟨rfl, rfl⟩ | ⟨rfl, rfl⟩
    case inr.inr.inr.inr.inr =>
      have hjn : ((j : Int) == (n : Int)) = true := by rw [HJ.out, HN.out, upto_five]; simp
      go_wp2
      go_ret
      exact ⟨by first | rfl | simp, below_drewN HB.out _⟩
    case inl =>
      have g5 : 0 < 5 := by omega
      cases hh : (bits .and .i64 a0 1 != 0) with
      | true =>
        have h1 : hit a0 (known.getD 0 0) = true := hh
        have hlt : j < n := by rw [HJ.out, HN.out]; exact upto_lt a0 g5 h1
        have hlt2 : decide ((n : Int) ≤ (j : Int)) = false := by simp; omega
        obtain ⟨x, rfl, hx⟩ := HR.out j hlt
        have hv : (all a0).getD j 0 = 1 := by rw [List.getD_eq_getElem?_getD, HJ.out, upto_at a0 g5 h1]; rfl
        have hx2 : w1.cell? (x.add j) = some (.int .i64 1) := by rw [← hv]; exact hx
        have i0 : (0 : Int) ≤ (j : Int) := by omega
        have i1 : (j : Int) < (n : Int) := by omega
        have HU := Lib.hid (upto_hit a0 g5 h1)
        clear hx hv
        go_wp2
        go_quiet (fail)
        go_wp2
        go_roundw
        case rel => exact ⟨1, 1, j + 1, _, by unfold Ix; omega, rfl, by go_num, by rw [HU.out, HJ.out]; simp, by first | rfl | (rw [World.drewN_drewN]) | simp⟩
        case measure => simp [intOf]
      | false =>
        have HU := Lib.hid (upto_miss a0 g5 hh)
        go_wp2
        go_roundw
        case rel => exact ⟨1, 1, j, q, by unfold Ix; omega, rfl, rfl, by rw [HU.out]; exact HJ.out, rfl⟩
        case measure => simp [intOf]
    case inr.inl =>
      have g5 : 1 < 5 := by omega
      cases hh : (bits .and .i64 a0 2 != 0) with
      | true =>
        have h1 : hit a0 (known.getD 1 0) = true := hh
        have hlt : j < n := by rw [HJ.out, HN.out]; exact upto_lt a0 g5 h1
        have hlt2 : decide ((n : Int) ≤ (j : Int)) = false := by simp; omega
        obtain ⟨x, rfl, hx⟩ := HR.out j hlt
        have hv : (all a0).getD j 0 = 2 := by rw [List.getD_eq_getElem?_getD, HJ.out, upto_at a0 g5 h1]; rfl
        have hx2 : w1.cell? (x.add j) = some (.int .i64 2) := by rw [← hv]; exact hx
        have i0 : (0 : Int) ≤ (j : Int) := by omega
        have i1 : (j : Int) < (n : Int) := by omega
        have HU := Lib.hid (upto_hit a0 g5 h1)
        clear hx hv
        go_wp2
        go_quiet (fail)
        go_wp2
        go_roundw
        case rel => exact ⟨2, 2, j + 1, _, by unfold Ix; omega, rfl, by go_num, by rw [HU.out, HJ.out]; simp, by first | rfl | (rw [World.drewN_drewN]) | simp⟩
        case measure => simp [intOf]
      | false =>
        have HU := Lib.hid (upto_miss a0 g5 hh)
        go_wp2
        go_roundw
        case rel => exact ⟨2, 2, j, q, by unfold Ix; omega, rfl, rfl, by rw [HU.out]; exact HJ.out, rfl⟩
        case measure => simp [intOf]
    case inr.inr.inl =>
      have g5 : 2 < 5 := by omega
      cases hh : (bits .and .i64 a0 4 != 0) with
      | true =>
        have h1 : hit a0 (known.getD 2 0) = true := hh
        have hlt : j < n := by rw [HJ.out, HN.out]; exact upto_lt a0 g5 h1
        have hlt2 : decide ((n : Int) ≤ (j : Int)) = false := by simp; omega
        obtain ⟨x, rfl, hx⟩ := HR.out j hlt
        have hv : (all a0).getD j 0 = 4 := by rw [List.getD_eq_getElem?_getD, HJ.out, upto_at a0 g5 h1]; rfl
        have hx2 : w1.cell? (x.add j) = some (.int .i64 4) := by rw [← hv]; exact hx
        have i0 : (0 : Int) ≤ (j : Int) := by omega
        have i1 : (j : Int) < (n : Int) := by omega
        have HU := Lib.hid (upto_hit a0 g5 h1)
        clear hx hv
        go_wp2
        go_quiet (fail)
        go_wp2
        go_roundw
        case rel => exact ⟨3, 3, j + 1, _, by unfold Ix; omega, rfl, by go_num, by rw [HU.out, HJ.out]; simp, by first | rfl | (rw [World.drewN_drewN]) | simp⟩
        case measure => simp [intOf]
      | false =>
        have HU := Lib.hid (upto_miss a0 g5 hh)
        go_wp2
        go_roundw
        case rel => exact ⟨3, 3, j, q, by unfold Ix; omega, rfl, rfl, by rw [HU.out]; exact HJ.out, rfl⟩
        case measure => simp [intOf]
    case inr.inr.inr.inl =>
      have g5 : 3 < 5 := by omega
      cases hh : (bits .and .i64 a0 8 != 0) with
      | true =>
        have h1 : hit a0 (known.getD 3 0) = true := hh
        have hlt : j < n := by rw [HJ.out, HN.out]; exact upto_lt a0 g5 h1
        have hlt2 : decide ((n : Int) ≤ (j : Int)) = false := by simp; omega
        obtain ⟨x, rfl, hx⟩ := HR.out j hlt
        have hv : (all a0).getD j 0 = 8 := by rw [List.getD_eq_getElem?_getD, HJ.out, upto_at a0 g5 h1]; rfl
        have hx2 : w1.cell? (x.add j) = some (.int .i64 8) := by rw [← hv]; exact hx
        have i0 : (0 : Int) ≤ (j : Int) := by omega
        have i1 : (j : Int) < (n : Int) := by omega
        have HU := Lib.hid (upto_hit a0 g5 h1)
        clear hx hv
        go_wp2
        go_quiet (fail)
        go_wp2
        go_roundw
        case rel => exact ⟨4, 4, j + 1, _, by unfold Ix; omega, rfl, by go_num, by rw [HU.out, HJ.out]; simp, by first | rfl | (rw [World.drewN_drewN]) | simp⟩
        case measure => simp [intOf]
      | false =>
        have HU := Lib.hid (upto_miss a0 g5 hh)
        go_wp2
        go_roundw
        case rel => exact ⟨4, 4, j, q, by unfold Ix; omega, rfl, rfl, by rw [HU.out]; exact HJ.out, rfl⟩
        case measure => simp [intOf]
    case inr.inr.inr.inr.inl =>
      have g5 : 4 < 5 := by omega
      cases hh : (bits .and .i64 a0 16 != 0) with
      | true =>
        have h1 : hit a0 (known.getD 4 0) = true := hh
        have hlt : j < n := by rw [HJ.out, HN.out]; exact upto_lt a0 g5 h1
        have hlt2 : decide ((n : Int) ≤ (j : Int)) = false := by simp; omega
        obtain ⟨x, rfl, hx⟩ := HR.out j hlt
        have hv : (all a0).getD j 0 = 16 := by rw [List.getD_eq_getElem?_getD, HJ.out, upto_at a0 g5 h1]; rfl
        have hx2 : w1.cell? (x.add j) = some (.int .i64 16) := by rw [← hv]; exact hx
        have i0 : (0 : Int) ≤ (j : Int) := by omega
        have i1 : (j : Int) < (n : Int) := by omega
        have HU := Lib.hid (upto_hit a0 g5 h1)
        clear hx hv
        go_wp2
        go_quiet (fail)
        go_wp2
        go_roundw
        case rel => exact ⟨5, 5, j + 1, _, by unfold Ix; omega, rfl, by go_num, by rw [HU.out, HJ.out]; simp, by first | rfl | (rw [World.drewN_drewN]) | simp⟩
        case measure => simp [intOf]
      | false =>
        have HU := Lib.hid (upto_miss a0 g5 hh)
        go_wp2
        go_roundw
        case rel => exact ⟨5, 5, j, q, by unfold Ix; omega, rfl, rfl, by rw [HU.out]; exact HJ.out, rfl⟩
        case measure => simp [intOf]

/-! ### THE ROW's STEP: WRITTEN OUT: LEAVE IT -/
set_option maxRecDepth 100000 in
theorem lifted (os : Os) (started : os.Started) (H : Type) (enc : TypeId × Value → H) :
    ReturnsInHanded {} Try.checked os 6 .any (Rows.fnBitsListsKnownVariantsInOrderSpec.pre6 enc Try.prog Try.f6 Rows.fnBitsListsKnownVariantsInOrderRow.domain false) (Rows.fnBitsListsKnownVariantsInOrderSpec.post enc Try.prog Try.f6 false true false false) := by
  refine returnsInHanded_of_change (C := Try.checked) own started (by kernel_rfl) Try.func6
    (ChangeSpec.witness6 (enc := enc) (C := Try.checked) false ⟨#[], #[.int .i64 0], []⟩ 8 (by kernel_rfl) (by kernel_rfl) (by kernel_rfl) (by kernel_rfl)) ?_
  intro W base args ds gs before hval0 hW hcnd _
  have hval : ∀ (j : Nat) t v, Try.f6.params[j]? = some t → args[j]? = some v → Value.okWide Try.prog W .any base t v := hval0
  have hW' := hW
  obtain ⟨p, q, hA0, hV, rfl, hfz, hnd⟩ := hW
  have hA : DataW.TrodAll enc Try.prog W 0 (fun _ => true) true Try.f6.params.toList args.toList ds p := hA0
  rw [Try.params6] at hA hval
  obtain ⟨v0, vs0, d0, ds0, p0, q0, hargs, rfl, rfl, h0, r0⟩ := trodAll_cons hA
  obtain ⟨rfl, rfl, rfl⟩ := trodAll_nil r0
  obtain rfl : args = #[v0] := by cases args; simp_all
  obtain ⟨rfl, rfl⟩ := trodVars_none hV
  obtain ⟨a0, rfl, rfl, rfl, w0⟩ := open_int Try.underlying3 (hval 0 3 v0 rfl rfl) h0
  clear hA0 hval0
  simp only [List.append_nil] at hW'
  refine (walk a0 w0 W).mono fun e W' ⟨he, bel⟩ => ?_
  subst he
  exact ⟨_, rfl, _, _, _, [], [], [], hW', (trodAll_cons_mk (shut_bool Try.underlying4 _) trodAll_mk0), (trodAll_cons_mk (shut_int Try.underlying3 w0) trodAll_mk0), rfl, bel.frame _, fun h => by cases h⟩

theorem over : Rows.fnBitsListsKnownVariantsInOrderRow.holds Try.pinned (OpenSpec.ofChange Rows.fnBitsListsKnownVariantsInOrderSpec) :=
  OpenClaim.holds_of_wide 6 Try.f6 rfl rfl rfl rfl rfl rfl rfl ⟨rfl, rfl, rfl, rfl, rfl⟩ rfl rfl rfl rfl rfl (by kernel_rfl) Try.func6 (by kernel_rfl)
    (of_decide_eq_true (by kernel_rfl)) (by unfold Func.isWrapper; first | (rw [if_pos (by decide +kernel)]; kernel_rfl) | (rw [if_neg (by decide +kernel)]; exact ⟨rfl, rfl⟩))
    (fun os started H enc _ => lifted os started H enc)

/-- ████ THE STATEMENT ████ -/
theorem proved : Rows.FnBitsListsKnownVariantsInOrderSaid :=
  over
#print axioms proved
end Go.Proofs.Ytmojheonollpeaa.fnBitsListsKnownVariantsInOrder
