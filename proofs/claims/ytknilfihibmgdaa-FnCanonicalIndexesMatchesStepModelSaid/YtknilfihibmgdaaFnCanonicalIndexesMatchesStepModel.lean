/- Proved here: CanonicalIndexes returns nil exactly at the lists that start at 0 and rise by one, and hands every other list back as it is (FnCanonicalIndexesMatchesStepModel returns true). No conditions. -/
import Derived.Test.YtknilfihibmgdaaRows
import Derived.WalkKit
import Derived.Test.YtknilfihibmgdaaStep
import Derived.ProofKit
import Derived.OpenShut
import Derived.ShutString
import Derived.ChangeOld
import Derived.Below
namespace Go.Proofs.Ytknilfihibmgdaa.fnCanonicalIndexesMatchesStepModel
open Go.ChangeShapes Go.WideShapes Go.ChangeAt Go.RowKit
open Go.ChangeMaps (open_string shut_string)
set_option linter.unusedVariables false

theorem own : ownKnob Try.prog.godebug = none := by kernel_rfl
theorem laidOut : laidOutB Try.prog = true := by kernel_rfl

/-- WHAT THE WALK IS TOLD OF A SLICE OF INTEGERS THAT CAME IN: it is nil; or it leads to a row of 'cap' cells, the numbers 'zs' (the first 'len' are its elements, the rest its spare room), each fitting its kind. -/
def IsRow (k : IntKind) (w : World) (a : Option Addr) (len cap : Nat) (zs : List Int) : Prop :=
  (a = none ∧ len = 0 ∧ cap = 0 ∧ zs = []) ∨
  ∃ x, a = some x ∧ len ≤ cap ∧ cap ≤ maxLen ∧ zs.length = cap ∧ (∀ i, i < zs.length → w.cell? (x.add i) = some (.int k (zs.getD i 0))) ∧ ∀ n ∈ zs, (Lit.int k n).wf = true

/-! ### STEP 1: THE WALK: the Go text returns true, AND WRITES NOTHING THAT WAS THERE: 'Below w.heap.size w w'' (Derived/Below.lean: '.refl', '.alloc', '.drew', '.setCell' at a new block, '.trans'). Open each 'IsRow' by 'rcases' AHEAD of 'go_enter'; part every test ahead of the walk. -/
theorem first_bad (f : Nat → Int) (n : Nat) : (∀ i, i < n → f i = i) ∨ ∃ j, j < n ∧ (∀ i, i < j → f i = i) ∧ ¬ f j = j := by
  induction n with
  | zero => exact .inl fun i h => by omega
  | succ n ih =>
    rcases ih with h | ⟨j, hj, h1, h2⟩
    · by_cases hn : f n = n
      · refine .inl fun i hi => ?_
        rcases Nat.lt_or_ge i n with h' | h'
        · exact h i h'
        · have : i = n := by omega
          rw [this, hn]
      · exact .inr ⟨n, by omega, h, hn⟩
    · exact .inr ⟨j, by omega, h1, h2⟩
theorem cells_same {w w' : World} (h : w.heap = w'.heap) (a : Addr) : w'.cell? a = w.cell? a := by unfold World.cell?; rw [h]
set_option maxRecDepth 100000 in
set_option maxHeartbeats 4000000 in
theorem at_row (x : Addr) (n c : Nat) (f : Nat → Int) (w : World) (hx : 0 < n → x.block < w.heap.size) (hs : ∀ i, i < n → w.cell? (x.add i) = some (.int .i64 (f i))) (hn : n ≤ 131072) :
    Calls Try.prog 6 #[.slice (some x) n c] w fun e w' => e = .returned (.bool true) ∧ Below w.heap.size w w' := by
  have q1 := sl_eql
  have h1 : ¬ (131072 : Int) < n := by omega
  have HS := Lib.hid hs
  have HX := Lib.hid hx
  clear hs hx
  rcases first_bad f n with hd | ⟨j, hj, hd, hne⟩
  · have HD := Lib.hid hd
    clear hd
    go_enter Try.func6, Try.ntmps6
    go_wp2_with (first
      | (go_at_call 30; refine (bytes_any _ _ _ _ (by omega)).mono ?_; rintro e w' ⟨rfl, rfl⟩)
      | (go_at_call 31; refine (clone_row x n c f _ HX.out HS.out hn).mono ?_; rintro e w1 ⟨rfl, hc1, hb1⟩
         have HC1 := Lib.hid hc1; have HB1 := Lib.hid hb1; clear hc1 hb1)
      | (go_at_call 32; refine (canon_dense _ n _ f _ HC1.out HD.out hn).mono ?_; rintro e w' ⟨rfl, rfl⟩)
      | (go_at_call 33; refine (step_dense _ n _ f _ HC1.out HD.out hn).mono ?_; rintro e w2 ⟨rfl, hh2, hb2⟩
         have HH2 := Lib.hid hh2; have HB2 := Lib.hid hb2; clear hh2 hb2))
    go_ret
    exact ⟨rfl, HB1.out.trans (HB2.out.mono HB1.out.size)⟩
  · have HD := Lib.hid hd
    have HN := Lib.hid hne
    clear hd hne
    rcases j with _ | j
    · have hz : (f 0 == 0) = false := by have := HN.out; simpa using this
      have HZ := Lib.hid hz
      clear hz
      go_enter Try.func6, Try.ntmps6
      go_wp2_with (first
        | (go_at_call 30; refine (bytes_any _ _ _ _ (by omega)).mono ?_; rintro e w' ⟨rfl, rfl⟩)
        | (go_at_call 31; refine (clone_row x n c f _ HX.out HS.out hn).mono ?_; rintro e w1 ⟨rfl, hc1, hb1⟩
           have HC1 := Lib.hid hc1; have HB1 := Lib.hid hb1; clear hc1 hb1)
        | (go_at_call 32; refine (canon_not _ n _ 0 f _ HC1.out hj HD.out HN.out hn).mono ?_; rintro e w' ⟨rfl, rfl⟩)
        | (go_at_call 33; refine (step_not0 _ n _ f _ (HC1.out 0 hj) hj HZ.out hn).mono ?_; rintro e w2 ⟨rfl, rfl⟩)
        | (go_at_call 34; refine (same_self _ n _ f _ HC1.out hn).mono ?_; rintro e w3 ⟨rfl, hh3, hb3⟩
           have HB3 := Lib.hid hb3; clear hh3 hb3))
      go_ret
      exact ⟨rfl, HB1.out.trans (HB3.out.mono HB1.out.size)⟩
    · go_enter Try.func6, Try.ntmps6
      go_wp2_with (first
        | (go_at_call 30; refine (bytes_any _ _ _ _ (by omega)).mono ?_; rintro e w' ⟨rfl, rfl⟩)
        | (go_at_call 31; refine (clone_row x n c f _ HX.out HS.out hn).mono ?_; rintro e w1 ⟨rfl, hc1, hb1⟩
           have HC1 := Lib.hid hc1; have HB1 := Lib.hid hb1; clear hc1 hb1)
        | (go_at_call 32; refine (canon_not _ n _ (j + 1) f _ HC1.out hj HD.out HN.out hn).mono ?_; rintro e w' ⟨rfl, rfl⟩)
        | (go_at_call 33; refine (step_not _ n _ j f _ HC1.out hj HD.out HN.out hn).mono ?_; rintro e w2 ⟨rfl, hh2, hb2⟩
           have HC2 := Lib.hid (fun i (hi : i < n) => (cells_same hh2 ⟨w.heap.size, i, none⟩).trans (HC1.out i hi)); have HB2 := Lib.hid hb2; clear hh2 hb2)
        | (go_at_call 34; refine (same_self _ n _ f _ HC2.out hn).mono ?_; rintro e w3 ⟨rfl, hh3, hb3⟩
           have HB3 := Lib.hid hb3; clear hh3 hb3))
      go_ret
      have t2 := HB1.out.trans (HB2.out.mono HB1.out.size)
      exact ⟨rfl, t2.trans (HB3.out.mono t2.size)⟩
set_option maxHeartbeats 1000000 in
theorem walk (a0 : Option Addr) (len0 cap0 : Nat) (z0 : List Int) (w : World) (w0 : IsRow .i64 w a0 len0 cap0 z0) :
    Calls Try.prog 6 #[.slice a0 len0 cap0] w fun e w' => e = .returned (.bool true) ∧ Below w.heap.size w w' := by
  have q1 := sl_eql
  rcases w0 with ⟨rfl, rfl, rfl, rfl⟩ | ⟨x, rfl, hl, hm, hz, hcell, hwf⟩
  · go_enter Try.func6, Try.ntmps6
    go_wp2_with (first
      | (go_at_call 30; refine (bytes_any none 0 0 _ (by omega)).mono ?_; rintro e w' ⟨rfl, rfl⟩)
      | (go_at_call 31; refine (clone_nil _).mono ?_; rintro e w' ⟨rfl, rfl⟩)
      | (go_at_call 32; refine (canon_nil _).mono ?_; rintro e w' ⟨rfl, rfl⟩)
      | (go_at_call 33; refine (step_nil _).mono ?_; rintro e w' ⟨rfl, rfl⟩))
    go_ret
    exact ⟨rfl, Below.refl _ _⟩
  by_cases h1 : 1048576 < len0
  · clear hz hcell hwf
    go_enter Try.func6, Try.ntmps6
    go_wp2_with (go_at_call 30; refine (bytes_big _ _ _ _ h1).mono ?_; rintro e w' ⟨rfl, rfl⟩)
    go_ret
    exact ⟨rfl, Below.refl _ _⟩
  by_cases h2 : 131072 < len0
  · clear hz hcell hwf
    have h3 : (131072 : Int) < len0 := by omega
    go_enter Try.func6, Try.ntmps6
    go_wp2_with (go_at_call 30; refine (bytes_any _ _ _ _ (by omega)).mono ?_; rintro e w' ⟨rfl, rfl⟩)
    go_ret
    exact ⟨rfl, Below.refl _ _⟩
  have hx : 0 < len0 → x.block < w.heap.size := fun h => by
    have := World.block_lt_of_cell? w _ (hcell 0 (by omega))
    rwa [cell_add] at this
  exact at_row x len0 cap0 (fun i => z0.getD i 0) w hx (fun i hi => hcell i (by omega)) (by omega)

/-! ### THE ROW's STEP: WRITTEN OUT: LEAVE IT -/
set_option maxRecDepth 100000 in
theorem lifted (os : Os) (started : os.Started) (H : Type) (enc : TypeId × Value → H) :
    ReturnsInHanded {} Try.checked os 6 .any (Rows.fnCanonicalIndexesMatchesStepModelSpec.pre6 enc Try.prog Try.f6 Rows.fnCanonicalIndexesMatchesStepModelRow.domain false) (Rows.fnCanonicalIndexesMatchesStepModelSpec.post enc Try.prog Try.f6 false true false false) := by
  refine returnsInHanded_of_change (C := Try.checked) own started (by kernel_rfl) Try.func6
    (ChangeSpec.witness6 (enc := enc) (C := Try.checked) false ⟨#[], #[.slice none 0 0], []⟩ 8 (by kernel_rfl) (by kernel_rfl) (by kernel_rfl) (by kernel_rfl)) ?_
  intro W base args ds gs before hval0 hW hcnd _
  have hval : ∀ (j : Nat) t v, Try.f6.params[j]? = some t → args[j]? = some v → Value.okWide Try.prog W .any base t v := hval0
  have hW' := hW
  obtain ⟨p, q, hA0, hV, rfl, hfz, hnd⟩ := hW
  have hA : DataW.TrodAll enc Try.prog W 0 (fun _ => true) true Try.f6.params.toList args.toList ds p := hA0
  rw [Try.params6] at hA hval
  obtain ⟨v0, vs0, d0, ds0, p0, q0, hargs, rfl, rfl, h0, r0⟩ := trodAll_cons hA
  obtain ⟨rfl, rfl, rfl⟩ := trodAll_nil r0
  obtain rfl : args = #[v0] := by cases args; simp_all
  obtain ⟨rfl, rfl⟩ := trodVars_none hV
  obtain ⟨a0, len0, cap0, rfl⟩ := okWide_slice Try.underlying45 (hval 0 45 v0 rfl rfl)
  have k0 := h0
  have lt0 : ∀ x ∈ p0, x.block < W.heap.size := by obtain ⟨m, hm⟩ := k0; exact DataW.trod_lt m _ _ _ hm
  obtain ⟨z0, w0⟩ : ∃ zs, IsRow .i64 W a0 len0 cap0 zs := by
    obtain ⟨fuel, hf⟩ := h0
    rcases open_ints Try.underlying45 Try.underlying3 (by kernel_rfl) hf with ⟨hcs, _⟩ | ⟨x, l, c, zs, hcs, _, hl, hm, hz, _, hcell, hwz⟩
    · simp [Value.cells] at hcs
      obtain ⟨rfl, rfl, rfl⟩ := hcs
      exact ⟨[], .inl ⟨rfl, rfl, rfl, rfl⟩⟩
    · simp [Value.cells] at hcs
      obtain ⟨rfl, rfl, rfl⟩ := hcs
      exact ⟨zs, .inr ⟨_, rfl, hl, hm, by simpa using hz, hcell, hwz⟩⟩
  clear hA0 hval0
  refine (walk a0 len0 cap0 z0 W w0).mono fun e W' ⟨he, bel⟩ => ?_
  subst he
  exact ⟨_, rfl, _, _, _, [], _, [], hW', trodAll_mk1 (shut_bool Try.underlying4 _), (trodAll_cons_mk (Below.trod laidOut (by kernel_rfl) (of_decide_eq_true (by kernel_rfl)) k0 bel lt0) trodAll_mk0), rfl, bel.frame _, fun h => by cases h⟩

theorem over : Rows.fnCanonicalIndexesMatchesStepModelRow.holds Try.pinned (OpenSpec.ofChange Rows.fnCanonicalIndexesMatchesStepModelSpec) :=
  OpenClaim.holds_of_wide 6 Try.f6 rfl rfl rfl rfl rfl rfl rfl ⟨rfl, rfl, rfl, rfl, rfl⟩ rfl rfl rfl rfl rfl (by kernel_rfl) Try.func6 (by kernel_rfl)
    (of_decide_eq_true (by kernel_rfl)) (by unfold Func.isWrapper; first | (rw [if_pos (by decide +kernel)]; kernel_rfl) | (rw [if_neg (by decide +kernel)]; exact ⟨rfl, rfl⟩))
    (fun os started H enc _ => lifted os started H enc)

/-- ████ THE STATEMENT ████ -/
theorem proved : Rows.FnCanonicalIndexesMatchesStepModelSaid := over
#print axioms proved
end Go.Proofs.Ytknilfihibmgdaa.fnCanonicalIndexesMatchesStepModel
