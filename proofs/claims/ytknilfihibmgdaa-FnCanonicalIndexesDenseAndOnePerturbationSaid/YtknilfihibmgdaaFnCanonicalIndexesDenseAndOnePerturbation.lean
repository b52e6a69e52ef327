/- Proved here: the identity list 0..n-1 is canonicalised to nil, and after a change of one position it is kept as it is (FnCanonicalIndexesDenseAndOnePerturbation returns true). No conditions. -/
import Derived.Test.YtknilfihibmgdaaRows
import Derived.WalkKit
import Derived.Test.YtknilfihibmgdaaCanon
import Derived.ProofKit
import Derived.Below
import Derived.OpenShut
import Derived.ShutString
namespace Go.Proofs.Ytknilfihibmgdaa.fnCanonicalIndexesDenseAndOnePerturbation
open Go.ChangeShapes Go.WideShapes Go.ChangeAt Go.RowKit
open Go.ChangeMaps (open_string shut_string)
set_option linter.unusedVariables false      -- a walk need not use every 'w<i>' (that an integer argument fits its kind)

theorem own : ownKnob Try.prog.godebug = none := by kernel_rfl

/-! ### STEP 1: THE WALK: the Go text returns true. 'Below w.heap.size w w'': the world has at most new blocks (Derived/RowKit3.lean). Part the cases AHEAD of 'go_enter' where a test parts the walk; take each callee by a contract of your own. -/
theorem wrap_ne (P d : Int) (h0 : 0 ≤ P) (h1 : P ≤ 65536) (d0 : -9223372036854775808 ≤ d) (d1 : d ≤ 9223372036854775807) (hd : ¬ d = 0) : ¬ wrap64 (P + d) = P := by unfold wrap64; omega
def upd (p : Nat) (v : Int) (i : Nat) : Int := if i = p then v else i
theorem upd_same (p : Nat) (v : Int) : upd p v p = v := if_pos rfl
theorem upd_other {p i : Nat} (v : Int) (h : ¬ i = p) : upd p v i = i := if_neg h
theorem row_upd (n p i : Nat) (v : Int) (hp : p < n) (hi : i < n) : ((cRow (fun i => (i : Int)) n n).set p (.int .i64 v))[i]? = some (.int .i64 (upd p v i)) := by
  by_cases h : i = p
  · subst h
    rw [upd_same, List.getElem?_set_self (by simp [cRow]; omega)]
  · rw [upd_other v h, List.getElem?_set_ne (Ne.symm h), cRow_full _ _ _ hi]
def idF (i : Nat) : Int := i
set_option maxRecDepth 100000 in
set_option maxHeartbeats 4000000 in
theorem pert (n P : Nat) (d : Int) (w : World) (hn : n ≤ 65536) (hP : P < n) (hd : (d == 0) = false) (d0 : -9223372036854775808 ≤ d) (d1 : d ≤ 9223372036854775807) :
    Calls Try.prog 7 #[.int .i64 n, .int .i64 P, .int .i64 d] w fun e w' => e = .returned (.bool true) ∧ Below w.heap.size w w' := by
  have HNE := Lib.hid (wrap_ne P d (by omega) (by omega) d0 d1 (by simpa using hd))
  have q1 := sl_neq
  have q2 := sl_eql
  obtain ⟨ii, hi, hz0, hz1, hz2⟩ := info_parts infoInt
  go_enter Try.func7, Try.ntmps7
  go_wp2_with (at_make; refine wpList_make_full _ rfl _ _ _ rfl w.heap.size 3 ii (.int .i64 0) 1 Try.underlying45 hi hz0 hz1 .i64 .i64 _ _ n rfl rfl rfl rfl (by rw [hz2]; omega) (by unfold maxLen; omega) (Nat.le_refl _) ?_; intro w1 hown hgrow)
  have hown0 : w1.ownsRow w.heap.size 3 1 (.slice (some ⟨w.heap.size, 0, none⟩) n n) n (cRow (fun i => (i : Int)) 0 n) := by
    rw [cRow_zero, ← toList_madeCells_one]
    have := hown
    simp only [Nat.mul_one] at this
    exact this
  have hB : Below w.heap.size w w1 := (Below.refl _ _).grown hgrow (Nat.le_refl _) (fun k hk => by cases hk)
  clear hown hgrow
  go_loopw [8] (fun i wr => ∃ k : Nat, k ≤ n ∧ i = .int .i64 k ∧ wr.ownsRow w.heap.size 3 1 (.slice (some ⟨w.heap.size, 0, none⟩) n n) n (cRow (fun i => (i : Int)) k n) ∧ Below w.heap.size w wr) (fun i _ => n - (intOf i).toNat)
  case atStart => exact ⟨0, Nat.zero_le _, rfl, hown0, hB⟩
  case round =>
    obtain ⟨k, hk, rfl, hown, hb⟩ := hrel
    have HO := Lib.hid hown
    have HB := Lib.hid hb
    by_cases hlt : k < n
    · obtain ⟨v, hv⟩ := cRow_at (fun i => (i : Int)) k n k hlt hk
      have hc := hown.cellAt k (by omega)
      rw [hv] at hc
      have hf := hown.frozenAt k
      have i0 : (0 : Int) ≤ (k : Int) := by omega
      have i1 : (k : Int) < (n : Int) := by omega
      clear hown hb hv hown0 hB
      go_wp2
      go_roundw
      case rel => exact ⟨k + 1, by omega, by go_num, by rw [← cRow_set (fun i => (i : Int)) k n hlt]; exact (HO.out.stored k _).1, HB.out.setCell (Nat.le_refl _) _⟩
      case measure => simp [intOf]; omega
    · have hkn : k = n := by omega
      rw [hkn] at hown
      have hcs : ∀ i, i < n → wr.cell? ⟨w.heap.size, i, none⟩ = some (.int .i64 (i : Int)) := fun i hi => by
        have := hown.cellAt i (by omega)
        rw [cRow_full _ _ _ hi] at this
        exact this
      have hst : ∀ i, i < n → (wr.setCell ⟨w.heap.size, P, none⟩ (.int .i64 (wrap64 ((P : Int) + d)))).cell? ⟨w.heap.size, i, none⟩ = some (.int .i64 (upd P (wrap64 ((P : Int) + d)) i)) := fun i hi => by
        have := (hown.stored P (.int .i64 (wrap64 ((P : Int) + d)))).1.cellAt i (by omega)
        rw [row_upd n P i _ hP hi] at this
        exact this
      have hl : (wr.setCell ⟨w.heap.size, P, none⟩ (.int .i64 (wrap64 ((P : Int) + d)))).cell? ⟨w.heap.size, P, none⟩ = some (.int .i64 (wrap64 ((P : Int) + d))) := by rw [hst P hP, upd_same]
      have hc := hcs P hP
      have hf := hown.frozenAt P
      have HCS := Lib.hid hcs
      have HST := Lib.hid hst
      have i0 : (0 : Int) ≤ (P : Int) := by omega
      have i1 : (P : Int) < (n : Int) := by omega
      have i2 : ¬ (P : Int) < 0 := by omega
      have i3 : ¬ (n : Int) ≤ (P : Int) := by omega
      clear hown hb hown0 hB hcs hst HO
      go_wp2_with (first
        | (go_at_call 32; with_reducible refine (canon_dense _ _ _ (fun i => (i : Int)) wr HCS.out (fun _ _ => rfl) (by omega)).mono ?_; rintro e w' ⟨rfl, rfl⟩)
        | (go_at_call 32; refine (canon_not _ n _ P (upd P (wrap64 ((P : Int) + d))) _ HST.out hP (fun i h => upd_other _ (by omega)) (by rw [upd_same]; exact HNE.out) (by omega)).mono ?_; rintro e w' ⟨rfl, rfl⟩))
      go_ret
      exact ⟨by first | rfl | simp, HB.out.setCell (Nat.le_refl _) _⟩
set_option maxRecDepth 100000 in
set_option maxHeartbeats 4000000 in
theorem skip (n : Nat) (p d : Int) (w : World) (hn : n ≤ 65536) (h : p < 0 ∨ (¬ p < 0 ∧ (n : Int) ≤ p) ∨ (¬ p < 0 ∧ ¬ (n : Int) ≤ p ∧ (d == 0) = true)) :
    Calls Try.prog 7 #[.int .i64 n, .int .i64 p, .int .i64 d] w fun e w' => e = .returned (.bool true) ∧ Below w.heap.size w w' := by
  have q1 := sl_neq
  have q2 := sl_eql
  obtain ⟨ii, hi, hz0, hz1, hz2⟩ := info_parts infoInt
  go_enter Try.func7, Try.ntmps7
  go_wp2_with (at_make; refine wpList_make_full _ rfl _ _ _ rfl w.heap.size 3 ii (.int .i64 0) 1 Try.underlying45 hi hz0 hz1 .i64 .i64 _ _ n rfl rfl rfl rfl (by rw [hz2]; omega) (by unfold maxLen; omega) (Nat.le_refl _) ?_; intro w1 hown hgrow)
  have hown0 : w1.ownsRow w.heap.size 3 1 (.slice (some ⟨w.heap.size, 0, none⟩) n n) n (cRow (fun i => (i : Int)) 0 n) := by
    rw [cRow_zero, ← toList_madeCells_one]
    have := hown
    simp only [Nat.mul_one] at this
    exact this
  have hB : Below w.heap.size w w1 := (Below.refl _ _).grown hgrow (Nat.le_refl _) (fun k hk => by cases hk)
  clear hown hgrow
  go_loopw [8] (fun i wr => ∃ k : Nat, k ≤ n ∧ i = .int .i64 k ∧ wr.ownsRow w.heap.size 3 1 (.slice (some ⟨w.heap.size, 0, none⟩) n n) n (cRow (fun i => (i : Int)) k n) ∧ Below w.heap.size w wr) (fun i _ => n - (intOf i).toNat)
  case atStart => exact ⟨0, Nat.zero_le _, rfl, hown0, hB⟩
  case round =>
    obtain ⟨k, hk, rfl, hown, hb⟩ := hrel
    have HO := Lib.hid hown
    have HB := Lib.hid hb
    by_cases hlt : k < n
    · obtain ⟨v, hv⟩ := cRow_at (fun i => (i : Int)) k n k hlt hk
      have hc := hown.cellAt k (by omega)
      rw [hv] at hc
      have hf := hown.frozenAt k
      have i0 : (0 : Int) ≤ (k : Int) := by omega
      have i1 : (k : Int) < (n : Int) := by omega
      clear hown hb hv hown0 hB
      go_wp2
      go_roundw
      case rel => exact ⟨k + 1, by omega, by go_num, by rw [← cRow_set (fun i => (i : Int)) k n hlt]; exact (HO.out.stored k _).1, HB.out.setCell (Nat.le_refl _) _⟩
      case measure => simp [intOf]; omega
    · have hkn : k = n := by omega
      rw [hkn] at hown
      have hcs : ∀ i, i < n → wr.cell? ⟨w.heap.size, i, none⟩ = some (.int .i64 (i : Int)) := fun i hi => by
        have := hown.cellAt i (by omega)
        rw [cRow_full _ _ _ hi] at this
        exact this
      have HCS := Lib.hid hcs
      clear hown hb hown0 hB hcs HO
      rcases h with h | ⟨h, h2⟩ | ⟨h, h2, h3⟩
      all_goals
        go_wp2_with (go_at_call 32; with_reducible refine (canon_dense _ _ _ (fun i => (i : Int)) wr HCS.out (fun _ _ => rfl) (by omega)).mono ?_; rintro e w' ⟨rfl, rfl⟩)
        go_ret
        exact ⟨by first | rfl | simp, HB.out⟩
set_option maxRecDepth 100000 in
set_option maxHeartbeats 4000000 in
theorem walk (a0 : Int) (a1 : Int) (a2 : Int) (w0 : (Lit.int .i64 a0).wf = true) (w1 : (Lit.int .i64 a1).wf = true) (w2 : (Lit.int .i64 a2).wf = true) (w : World) :
    Calls Try.prog 7 #[.int .i64 a0, .int .i64 a1, .int .i64 a2] w fun e w' => e = .returned (.bool true) ∧ Below w.heap.size w w' := by
  have b0 := bounds_i64 w0
  have b1 := bounds_i64 w1
  have b2 := bounds_i64 w2
  clear w0 w1 w2
  by_cases h0 : a0 < 0
  · go_enter Try.func7, Try.ntmps7
    go_wp2
    go_ret
    exact ⟨rfl, Below.refl _ _⟩
  by_cases h1 : 65536 < a0
  · go_enter Try.func7, Try.ntmps7
    go_wp2
    go_ret
    exact ⟨rfl, Below.refl _ _⟩
  obtain ⟨n, rfl⟩ := Int.eq_ofNat_of_zero_le (show 0 ≤ a0 by omega)
  by_cases h2 : a1 < 0
  · exact skip n a1 a2 w (by omega) (.inl h2)
  by_cases h3 : (n : Int) ≤ a1
  · exact skip n a1 a2 w (by omega) (.inr (.inl ⟨h2, h3⟩))
  rcases Bool.eq_false_or_eq_true (a2 == 0) with h4 | h4
  · exact skip n a1 a2 w (by omega) (.inr (.inr ⟨h2, h3, h4⟩))
  obtain ⟨P, rfl⟩ := Int.eq_ofNat_of_zero_le (show 0 ≤ a1 by omega)
  exact pert n P a2 w (by omega) (by omega) h4 b2.1 b2.2

/-! ### THE ROW's STEP: WRITTEN OUT: LEAVE IT -/
set_option maxRecDepth 100000 in
theorem lifted (os : Os) (started : os.Started) (H : Type) (enc : TypeId × Value → H) :
    ReturnsInHanded {} Try.checked os 7 .any (Rows.fnCanonicalIndexesDenseAndOnePerturbationSpec.pre6 enc Try.prog Try.f7 Rows.fnCanonicalIndexesDenseAndOnePerturbationRow.domain false) (Rows.fnCanonicalIndexesDenseAndOnePerturbationSpec.post enc Try.prog Try.f7 false true false false) := by
  refine returnsInHanded_of_change (C := Try.checked) own started (by kernel_rfl) Try.func7
    (ChangeSpec.witness6 (enc := enc) (C := Try.checked) false ⟨#[], #[.int .i64 0, .int .i64 0, .int .i64 0], []⟩ 8 (by kernel_rfl) (by kernel_rfl) (by kernel_rfl) (by kernel_rfl)) ?_
  intro W base args ds gs before hval0 hW hcnd _
  have hval : ∀ (j : Nat) t v, Try.f7.params[j]? = some t → args[j]? = some v → Value.okWide Try.prog W .any base t v := hval0
  have hW' := hW
  obtain ⟨p, q, hA0, hV, rfl, hfz, hnd⟩ := hW
  have hA : DataW.TrodAll enc Try.prog W 0 (fun _ => true) true Try.f7.params.toList args.toList ds p := hA0
  rw [Try.params7] at hA hval
  obtain ⟨v0, vs0, d0, ds0, p0, q0, hargs, rfl, rfl, h0, r0⟩ := trodAll_cons hA
  obtain ⟨v1, vs1, d1, ds1, p1, q1, rfl, rfl, rfl, h1, r1⟩ := trodAll_cons r0
  obtain ⟨v2, vs2, d2, ds2, p2, q2, rfl, rfl, rfl, h2, r2⟩ := trodAll_cons r1
  obtain ⟨rfl, rfl, rfl⟩ := trodAll_nil r2
  obtain rfl : args = #[v0, v1, v2] := by cases args; simp_all
  obtain ⟨rfl, rfl⟩ := trodVars_none hV
  obtain ⟨a0, rfl, rfl, rfl, w0⟩ := open_int Try.underlying3 (hval 0 3 v0 rfl rfl) h0
  obtain ⟨a1, rfl, rfl, rfl, w1⟩ := open_int Try.underlying3 (hval 1 3 v1 rfl rfl) h1
  obtain ⟨a2, rfl, rfl, rfl, w2⟩ := open_int Try.underlying3 (hval 2 3 v2 rfl rfl) h2
  clear hA0 hval0
  simp only [List.append_nil] at hW'
  refine (walk a0 a1 a2 w0 w1 w2 W).mono fun e W' ⟨he, bel⟩ => ?_
  subst he
  exact ⟨_, rfl, _, _, _, [], [], [], hW', (trodAll_cons_mk (shut_bool Try.underlying4 _) trodAll_mk0), (trodAll_cons_mk (shut_int Try.underlying3 w0) (trodAll_cons_mk (shut_int Try.underlying3 w1) (trodAll_cons_mk (shut_int Try.underlying3 w2) trodAll_mk0))), rfl, bel.frame _, fun h => by cases h⟩

theorem over : Rows.fnCanonicalIndexesDenseAndOnePerturbationRow.holds Try.pinned (OpenSpec.ofChange Rows.fnCanonicalIndexesDenseAndOnePerturbationSpec) :=
  OpenClaim.holds_of_wide 7 Try.f7 rfl rfl rfl rfl rfl rfl rfl ⟨rfl, rfl, rfl, rfl, rfl⟩ rfl rfl rfl rfl rfl (by kernel_rfl) Try.func7 (by kernel_rfl)
    (of_decide_eq_true (by kernel_rfl)) (by unfold Func.isWrapper; first | (rw [if_pos (by decide +kernel)]; kernel_rfl) | (rw [if_neg (by decide +kernel)]; exact ⟨rfl, rfl⟩))
    (fun os started H enc _ => lifted os started H enc)

/-- ████ THE STATEMENT ████ -/
theorem proved : Rows.FnCanonicalIndexesDenseAndOnePerturbationSaid :=
  over
#print axioms proved
end Go.Proofs.Ytknilfihibmgdaa.fnCanonicalIndexesDenseAndOnePerturbation
