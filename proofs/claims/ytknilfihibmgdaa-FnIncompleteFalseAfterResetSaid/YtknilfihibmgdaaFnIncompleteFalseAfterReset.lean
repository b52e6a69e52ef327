/- Proved here: whatever open nodes and pending literal a parser held, after reset it is not incomplete, and so after a second reset (FnIncompleteFalseAfterReset returns true). No conditions. -/
import Derived.Test.YtknilfihibmgdaaRows
import Derived.WalkKit
import Derived.Test.YtknilfihibmgdaaReset
import Derived.Test.YtknilfihibmgdaaCloneB
import Derived.Great.BuildSlice
import Derived.ProofKit
import Derived.OpenShut
import Derived.ShutString
import Derived.ChangeOld
import Derived.Below
namespace Go.Proofs.Ytknilfihibmgdaa.fnIncompleteFalseAfterReset
open Go.ChangeShapes Go.WideShapes Go.ChangeAt Go.RowKit
open Go.ChangeMaps (open_string shut_string)
set_option linter.unusedVariables false

theorem own : ownKnob Try.prog.godebug = none := by kernel_rfl
theorem laidOut : laidOutB Try.prog = true := by kernel_rfl

/-- WHAT THE WALK IS TOLD OF A SLICE OF INTEGERS THAT CAME IN: it is nil; or it leads to a row of 'cap' cells, the numbers 'zs' (the first 'len' are its elements, the rest its spare room), each fitting its kind. -/
def IsRow (k : IntKind) (w : World) (a : Option Addr) (len cap : Nat) (zs : List Int) : Prop :=
  (a = none ∧ len = 0 ∧ cap = 0 ∧ zs = []) ∨
  ∃ x, a = some x ∧ len ≤ cap ∧ cap ≤ maxLen ∧ zs.length = cap ∧ (∀ i, i < zs.length → w.cell? (x.add i) = some (.int k (zs.getD i 0))) ∧ ∀ n ∈ zs, (Lit.int k n).wf = true

/-! ### STEP 1: THE WALK: the Go text returns true, AND WRITES NOTHING THAT WAS THERE: 'Below w.heap.size w w'' (Derived/Below.lean: '.refl', '.alloc', '.drew', '.setCell' at a new block, '.trans'). Open each 'IsRow' by 'rcases' AHEAD of 'go_enter'; part every test ahead of the walk. -/
theorem built_at (a : Int) (x : Option Addr) (n c : Nat) : (Try.prog.built 106 [(28, .int .i64 a), (40, .slice x n c)]).map (fun C => (C.size, C[26]?)) = some (2088, some (.slice none 0 0)) := by kernel_rfl
theorem built_ex (a : Int) (x : Option Addr) (n c : Nat) : ∃ C, Try.prog.built 106 [(28, .int .i64 a), (40, .slice x n c)] = some C ∧ C.size = 2088 ∧ C[26]? = some (.slice none 0 0) := by
  obtain ⟨C, hC, h⟩ := Option.map_eq_some_iff.1 (built_at a x n c)
  simp only [Prod.mk.injEq] at h
  exact ⟨C, hC, h⟩
/-- a new parser -/
def NewP (w : World) (x : Ending) (w' : World) : Prop := ∃ C, x = .returned (.pointer (some ⟨w.heap.size, 0, none⟩)) ∧ w.alloc (.cells C 106) = w' ∧ C.size = 2088 ∧ C[26]? = some (.slice none 0 0)
set_option maxRecDepth 100000 in
set_option maxHeartbeats 1000000 in
theorem newOpen_any (a : Int) (x : Option Addr) (n c : Nat) (w : World) : Calls Try.prog 27 #[.int .i64 a, .slice x n c] w (NewP w) := by
  obtain ⟨C, hC, hS⟩ := built_ex a x n c
  have HC := Lib.hid hC
  have HS := Lib.hid hS
  clear hC hS
  go_enter Try.func27, Try.ntmps27
  go_wp2_with ((with_reducible refine wpList_buildTo rfl 106 _ rfl _ rfl C ?_ ?_); (focus (simp; exact HC.out)))
  go_ret
  exact ⟨C, rfl, rfl, HS.out⟩
theorem bytes_ok (a : Int) (x : Option Addr) (n c : Nat) (w : World) (hn : n ≤ 1048576) : Calls Try.prog 25 #[.int .i64 a, .slice x n c] w fun e w' => e = .returned (.bool true) ∧ w = w' := by
  have h1 : ¬ (1048576 : Int) < n := by omega
  go_enter Try.func25, Try.ntmps25
  go_wp2
  go_ret
  exact ⟨rfl, rfl⟩
theorem bytes_no (a : Int) (x : Option Addr) (n c : Nat) (w : World) (hn : 1048576 < n) : Calls Try.prog 25 #[.int .i64 a, .slice x n c] w fun e w' => e = .returned (.bool false) ∧ w = w' := by
  have h1 : (1048576 : Int) < n := by omega
  go_enter Try.func25, Try.ntmps25
  go_wp2
  go_ret
  exact ⟨rfl, rfl⟩
/-- a copy, whatever came in -/
def AnyClone (w : World) (e : Ending) (w' : World) : Prop := ∃ y m d, e = .returned (.slice y m d) ∧ Below w.heap.size w w'
theorem clone_any (a1 : Option Addr) (n c : Nat) (z : List Int) (w : World) (h : IsRow .u8 w a1 n c z) (hn : n ≤ 1048576) : Calls Try.prog 26 #[.slice a1 n c] w (AnyClone w) := by
  rcases h with ⟨rfl, rfl, rfl, rfl⟩ | ⟨x, rfl, hl, hm, hz, hcell, hwf⟩
  · exact (CB.clone_nil w).mono fun e w' ⟨he, hw⟩ => ⟨none, 0, 0, he, by subst hw; exact Below.refl _ _⟩
  · refine (CB.clone_row x n c (fun i => z.getD i 0) w (fun h => ?_) (fun i hi => hcell i (by omega)) hn).mono fun e w' ⟨he, _, _, hb⟩ => ⟨_, _, _, he, hb⟩
    have := World.block_lt_of_cell? w _ (hcell 0 (by omega))
    rwa [CB.cell_add] at this
set_option maxRecDepth 100000 in
set_option maxHeartbeats 2000000 in
theorem walk (a0 : Int) (a1 : Option Addr) (len1 cap1 : Nat) (z1 : List Int) (w : World) (w0 : (Lit.int .i64 a0).wf = true) (w1 : IsRow .u8 w a1 len1 cap1 z1) :
    Calls Try.prog 5 #[.int .i64 a0, .slice a1 len1 cap1] w fun e w' => e = .returned (.bool true) ∧ Below w.heap.size w w' := by
  clear w0
  by_cases h1 : 1048576 < len1
  · clear w1
    go_enter Try.func5, Try.ntmps5
    go_wp2_with (go_at_call 25; refine (bytes_no _ _ _ _ _ h1).mono ?_; rintro e w' ⟨rfl, rfl⟩)
    go_ret
    exact ⟨rfl, Below.refl _ _⟩
  have h2 : ¬ (1048576 : Int) < len1 := by omega
  have HW := Lib.hid w1
  clear w1
  go_enter Try.func5, Try.ntmps5
  go_wp2_with (first
    | (go_at_call 25; refine (bytes_ok _ _ _ _ _ (by omega)).mono ?_; rintro e w' ⟨rfl, rfl⟩)
    | (go_at_call 26; refine (clone_any _ _ _ _ _ HW.out (by omega)).mono ?_; rintro e w1 ⟨y, m, d, rfl, hb1⟩
       have HB1 := Lib.hid hb1; clear hb1)
    | (go_at_call 27; refine (newOpen_any _ _ _ _ _).mono ?_; rintro e w2 ⟨C, rfl, hw2, hC⟩
       have HP := Lib.hid (PBlk.new w1 C)
       rw [hw2] at HP
       have HB2 := Lib.hid ((Below.refl w1.heap.size w1).alloc (Nat.le_refl _) (.cells C 106))
       rw [hw2] at HB2
       have HC := Lib.hid hC
       have hbz := HB1.out.size
       generalize w1.heap.size = b at *
       clear hC hw2)
    | (go_at_call 28; refine (zzReset_any _ none 0 0 C _ HP.out HC.out.1 HC.out.2 (by omega) (by omega)).mono ?_; rintro e w3 ⟨rfl, hP3, hB3⟩
       have HP3 := Lib.hid hP3; have HB3 := Lib.hid hB3; clear hP3 hB3 HP)
    | (go_at_call 29; refine (incomplete_not _ _ ((HP3.out.cell 29).trans (wiped_at _ _ _ _ HC.out.1).1) ((HP3.out.cell 2087).trans (wiped_at _ _ _ _ HC.out.1).2.1)).mono ?_; rintro e w' ⟨rfl, rfl⟩)
    | (go_at_call 28; refine (zzReset_any _ none 0 0 _ _ HP3.out ((wiped_size _ _ _ _).trans HC.out.1) ((wiped_at _ _ _ _ HC.out.1).2.2) (by omega) (by omega)).mono ?_; rintro e w4 ⟨rfl, hP4, hB4⟩
       have HP4 := Lib.hid hP4; have HB4 := Lib.hid hB4; clear hP4 hB4 HP3)
    | (go_at_call 29; refine (incomplete_not _ _ ((HP4.out.cell 29).trans (wiped_at _ _ _ _ ((wiped_size _ _ _ _).trans HC.out.1)).1) ((HP4.out.cell 2087).trans (wiped_at _ _ _ _ ((wiped_size _ _ _ _).trans HC.out.1)).2.1)).mono ?_; rintro e w' ⟨rfl, rfl⟩))
  go_ret
  have t2 := HB1.out.trans (HB2.out.mono hbz)
  have t3 := t2.trans (HB3.out _ hbz)
  exact ⟨rfl, t3.trans (HB4.out _ hbz)⟩

/-! ### THE ROW's STEP: WRITTEN OUT: LEAVE IT -/
set_option maxRecDepth 100000 in
theorem lifted (os : Os) (started : os.Started) (H : Type) (enc : TypeId × Value → H) :
    ReturnsInHanded {} Try.checked os 5 .any (Rows.fnIncompleteFalseAfterResetSpec.pre6 enc Try.prog Try.f5 Rows.fnIncompleteFalseAfterResetRow.domain false) (Rows.fnIncompleteFalseAfterResetSpec.post enc Try.prog Try.f5 false true false false) := by
  refine returnsInHanded_of_change (C := Try.checked) own started (by kernel_rfl) Try.func5
    (ChangeSpec.witness6 (enc := enc) (C := Try.checked) false ⟨#[], #[.int .i64 0, .slice none 0 0], []⟩ 8 (by kernel_rfl) (by kernel_rfl) (by kernel_rfl) (by kernel_rfl)) ?_
  intro W base args ds gs before hval0 hW hcnd _
  have hval : ∀ (j : Nat) t v, Try.f5.params[j]? = some t → args[j]? = some v → Value.okWide Try.prog W .any base t v := hval0
  have hW' := hW
  obtain ⟨p, q, hA0, hV, rfl, hfz, hnd⟩ := hW
  have hA : DataW.TrodAll enc Try.prog W 0 (fun _ => true) true Try.f5.params.toList args.toList ds p := hA0
  rw [Try.params5] at hA hval
  obtain ⟨v0, vs0, d0, ds0, p0, q0, hargs, rfl, rfl, h0, r0⟩ := trodAll_cons hA
  obtain ⟨v1, vs1, d1, ds1, p1, q1, rfl, rfl, rfl, h1, r1⟩ := trodAll_cons r0
  obtain ⟨rfl, rfl, rfl⟩ := trodAll_nil r1
  obtain rfl : args = #[v0, v1] := by cases args; simp_all
  obtain ⟨rfl, rfl⟩ := trodVars_none hV
  obtain ⟨a0, rfl, rfl, rfl, w0⟩ := open_int Try.underlying3 (hval 0 3 v0 rfl rfl) h0
  obtain ⟨a1, len1, cap1, rfl⟩ := okWide_slice Try.underlying54 (hval 1 54 v1 rfl rfl)
  have k1 := h1
  have lt1 : ∀ x ∈ p1, x.block < W.heap.size := by obtain ⟨m, hm⟩ := k1; exact DataW.trod_lt m _ _ _ hm
  obtain ⟨z1, w1⟩ : ∃ zs, IsRow .u8 W a1 len1 cap1 zs := by
    obtain ⟨fuel, hf⟩ := h1
    rcases open_ints Try.underlying54 Try.underlying5 (by kernel_rfl) hf with ⟨hcs, _⟩ | ⟨x, l, c, zs, hcs, _, hl, hm, hz, _, hcell, hwz⟩
    · simp [Value.cells] at hcs
      obtain ⟨rfl, rfl, rfl⟩ := hcs
      exact ⟨[], .inl ⟨rfl, rfl, rfl, rfl⟩⟩
    · simp [Value.cells] at hcs
      obtain ⟨rfl, rfl, rfl⟩ := hcs
      exact ⟨zs, .inr ⟨_, rfl, hl, hm, by simpa using hz, hcell, hwz⟩⟩
  clear hA0 hval0
  refine (walk a0 a1 len1 cap1 z1 W w0 w1).mono fun e W' ⟨he, bel⟩ => ?_
  subst he
  exact ⟨_, rfl, _, _, _, [], _, [], hW', trodAll_mk1 (shut_bool Try.underlying4 _), (trodAll_cons_mk (shut_int Try.underlying3 w0) (trodAll_cons_mk (Below.trod laidOut (by kernel_rfl) (of_decide_eq_true (by kernel_rfl)) k1 bel lt1) trodAll_mk0)), rfl, bel.frame _, fun h => by cases h⟩

theorem over : Rows.fnIncompleteFalseAfterResetRow.holds Try.pinned (OpenSpec.ofChange Rows.fnIncompleteFalseAfterResetSpec) :=
  OpenClaim.holds_of_wide 5 Try.f5 rfl rfl rfl rfl rfl rfl rfl ⟨rfl, rfl, rfl, rfl, rfl⟩ rfl rfl rfl rfl rfl (by kernel_rfl) Try.func5 (by kernel_rfl)
    (of_decide_eq_true (by kernel_rfl)) (by unfold Func.isWrapper; first | (rw [if_pos (by decide +kernel)]; kernel_rfl) | (rw [if_neg (by decide +kernel)]; exact ⟨rfl, rfl⟩))
    (fun os started H enc _ => lifted os started H enc)

/-- ████ THE STATEMENT ████ -/
theorem proved : Rows.FnIncompleteFalseAfterResetSaid := over
#print axioms proved
end Go.Proofs.Ytknilfihibmgdaa.fnIncompleteFalseAfterReset
