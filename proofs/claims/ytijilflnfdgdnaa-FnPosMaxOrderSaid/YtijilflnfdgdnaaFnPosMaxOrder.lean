/- Proved here: for any two valid positions posMax lands on the greater offset in either order, the answer is one of the two, neither is after it, and a tie goes to the first argument (FnPosMaxOrder returns true). No conditions. -/
import Derived.Test.YtijilflnfdgdnaaRows
import Derived.WalkKit
import Derived.Test.YtijilflnfdgdnaaPos
import Derived.Deep.DeepCutAuto
import Derived.ProofKit
import Derived.Below
import Derived.OpenShut
import Derived.ShutString
namespace Go.Proofs.Ytijilflnfdgdnaa.fnPosMaxOrder
open Go.ChangeShapes Go.WideShapes Go.ChangeAt Go.RowKit
open Go.ChangeMaps (open_string shut_string)
set_option linter.unusedVariables false      -- a walk need not use every 'w<i>' (that an integer argument fits its kind)

theorem own : ownKnob Try.prog.godebug = none := by kernel_rfl

/-! ### STEP 1: THE WALK: the Go text returns true. 'Below w.heap.size w w'': the world has at most new blocks (Derived/RowKit3.lean). Part the cases AHEAD of 'go_enter' where a test parts the walk; take each callee by a contract of your own. -/
theorem after_any (a b c d : Int) (w : World) (h : validB a b = true) :
    Calls Try.prog 11 #[posV a b, posV c d] w fun e w' => e = .returned (.bool (decide (c < a))) ∧ ((w.alloc (posC a b)).alloc (posC c d)).alloc (posC a b) = w' := by
  go_enter Try.func11, Try.ntmps11
  go_wp2_with (go_at_call 28; refine (isValid_any _ _ _).mono ?_; rintro e w1 ⟨rfl, rfl⟩)
  go_ret
  exact ⟨rfl, rfl⟩
theorem max_lt (a b c d : Int) (w : World) (h : validB c d = true) (g : a < c) :
    Calls Try.prog 27 #[posV a b, posV c d] w fun e w' => e = .returned (posV c d) ∧ Below w.heap.size w w' := by
  go_enter Try.func27, Try.ntmps27
  go_wp2_with (go_at_call 11; refine (after_any _ _ _ _ _ h).mono ?_; rintro e w1 ⟨rfl, rfl⟩)
  exact bodyPost_ret (v := posV c d) (by simp [results, Try.results27, go_sem]) rfl ⟨rfl, by repeat (first | exact Below.refl _ _ | apply Below.drew | apply bal | (refine Below.setCell ?_ (by simp only [World.size_alloc]; omega) _))⟩
theorem max_ge (a b c d : Int) (w : World) (h : validB c d = true) (g : ¬ a < c) :
    Calls Try.prog 27 #[posV a b, posV c d] w fun e w' => e = .returned (posV a b) ∧ Below w.heap.size w w' := by
  go_enter Try.func27, Try.ntmps27
  go_wp2_with (go_at_call 11; refine (after_any _ _ _ _ _ h).mono ?_; rintro e w1 ⟨rfl, rfl⟩)
  exact bodyPost_ret (v := posV a b) (by simp [results, Try.results27, go_sem]) rfl ⟨rfl, by repeat (first | exact Below.refl _ _ | apply Below.drew | apply bal | (refine Below.setCell ?_ (by simp only [World.size_alloc]; omega) _))⟩
theorem validRaw_any (o lc : Int) (w : World) (h0 : 0 ≤ o) (h1 : o ≤ 4294967295) :
    Calls Try.prog 7 #[.int .u32 o, .int .u32 lc] w fun e w' => e = .returned (.bool (validB o lc)) ∧ w = w' := by
  have eo : validB o lc = (decide (o ≤ 4294967284) && (lc != 0)) := rfl
  by_cases ho : o ≤ 4294967284
  · rw [decide_eq_true ho, Bool.true_and] at eo
    rw [eo]
    clear eo
    go_enter Try.func7, Try.ntmps7
    go_wp2
    go_ret
    exact ⟨rfl, rfl⟩
  · rw [decide_eq_false ho, Bool.false_and] at eo
    rw [eo]
    clear eo
    go_enter Try.func7, Try.ntmps7
    go_wp2
    go_ret
    exact ⟨rfl, rfl⟩
theorem validB_le {o lc : Int} (h : validB o lc = true) : o ≤ 4294967284 := by
  unfold validB at h; simp at h; exact h.1
theorem b3 {w w1 : World} {a b c : Obj} (h : Below (((w.alloc a).alloc b).alloc c).heap.size (((w.alloc a).alloc b).alloc c) w1) : Below w.heap.size w w1 := by
  refine Below.trans (b := (((w.alloc a).alloc b).alloc c)) ?_ (h.mono (by simp only [World.size_alloc]; omega))
  exact (((Below.refl _ _).alloc (Nat.le_refl _) _).alloc (by simp only [World.size_alloc]; omega) _).alloc (by simp only [World.size_alloc]; omega) _
theorem mk_any (o lc : Int) (w : World) :
    Calls Try.prog 8 #[.int .u32 o, .int .u32 lc] w fun e w' => e = .returned (posV o lc) ∧ w.alloc (posC o lc) = w' := by
  go_enter Try.func8, Try.ntmps8
  go_wp2
  exact bodyPost_ret (by simp [results, Try.results8, go_sem]) rfl ⟨rfl, rfl⟩
theorem zmax (a b c d r s : Int) (w : World) (H : ∀ W, Calls Try.prog 27 #[posV a b, posV c d] W fun e w' => e = .returned (posV r s) ∧ Below W.heap.size W w') :
    Calls Try.prog 9 #[posV a b, posV c d] w fun e w' => e = .returned (posV r s) ∧ Below w.heap.size w w' := by
  have HH := Lib.hid H
  clear H
  go_enter Try.func9, Try.ntmps9
  go_wp2_with fail
  go_at_call 27
  refine (HH.out _).mono ?_
  rintro e w1 ⟨rfl, hb1⟩
  have q0 : w1.cell? ⟨w.heap.size + 1 + 1, 0, none⟩ = some (.int .u32 0) := cell_later hb1 (by go_simp)
  have q1 : w1.cell? ⟨w.heap.size + 1 + 1, 1, none⟩ = some (.int .u32 0) := cell_later hb1 (by go_simp)
  have f0 : w1.frozen? ⟨w.heap.size + 1 + 1, 0, none⟩ = false := (hb1.frozen (p := ⟨w.heap.size + 1 + 1, 0, none⟩) (by simp)).trans (by go_simp)
  have f1 : w1.frozen? ⟨w.heap.size + 1 + 1, 1, none⟩ = false := (hb1.frozen (p := ⟨w.heap.size + 1 + 1, 1, none⟩) (by simp)).trans (by go_simp)
  have HB := Lib.hid (b3 hb1)
  clear hb1
  go_wp2
  refine bodyPost_ret (v := posV r s) (by simp [results, Try.results9, go_sem, q0, q1]) rfl ⟨rfl, ?_⟩
  exact (HB.out.setCell (by show _ ≤ w.heap.size + 1 + 1; omega) _).setCell (by show _ ≤ w.heap.size + 1 + 1; omega) _
theorem b4 {w w1 : World} {a b c d : Obj} (h : Below ((((w.alloc a).alloc b).alloc c).alloc d).heap.size ((((w.alloc a).alloc b).alloc c).alloc d) w1) : Below w.heap.size w w1 := by
  refine Below.trans (b := ((((w.alloc a).alloc b).alloc c).alloc d)) ?_ (h.mono (by simp only [World.size_alloc]; omega))
  exact ((((Below.refl _ _).alloc (Nat.le_refl _) _).alloc (by simp only [World.size_alloc]; omega) _).alloc (by simp only [World.size_alloc]; omega) _).alloc (by simp only [World.size_alloc]; omega) _
/-- what the last statement keeps: the four positions in memory, and all that was there -/
def MxS (w : World) (A B R Q : Nat) (a0 a1 a2 a3 r0 r1 q0 q1 : Int) (W : World) : Prop :=
  W.cell? ⟨A, 0, none⟩ = some (.int .u32 a0) ∧ W.cell? ⟨A, 1, none⟩ = some (.int .u32 a1) ∧ W.cell? ⟨B, 0, none⟩ = some (.int .u32 a2) ∧ W.cell? ⟨B, 1, none⟩ = some (.int .u32 a3) ∧
  W.cell? ⟨R, 0, none⟩ = some (.int .u32 r0) ∧ W.cell? ⟨R, 1, none⟩ = some (.int .u32 r1) ∧ W.cell? ⟨Q, 0, none⟩ = some (.int .u32 q0) ∧ W.cell? ⟨Q, 1, none⟩ = some (.int .u32 q1) ∧ Below w.heap.size w W
theorem ms_drew {w W : World} {A B R Q : Nat} {a0 a1 a2 a3 r0 r1 q0 q1 : Int} (h : MxS w A B R Q a0 a1 a2 a3 r0 r1 q0 q1 W) : MxS w A B R Q a0 a1 a2 a3 r0 r1 q0 q1 W.drew :=
  ⟨h.1, h.2.1, h.2.2.1, h.2.2.2.1, h.2.2.2.2.1, h.2.2.2.2.2.1, h.2.2.2.2.2.2.1, h.2.2.2.2.2.2.2.1, h.2.2.2.2.2.2.2.2.drew⟩
theorem ms_alloc {w W : World} {A B R Q : Nat} {a0 a1 a2 a3 r0 r1 q0 q1 : Int} (x : Obj) (h : MxS w A B R Q a0 a1 a2 a3 r0 r1 q0 q1 W) : MxS w A B R Q a0 a1 a2 a3 r0 r1 q0 q1 (W.alloc x) :=
  ⟨kb h.1, kb h.2.1, kb h.2.2.1, kb h.2.2.2.1, kb h.2.2.2.2.1, kb h.2.2.2.2.2.1, kb h.2.2.2.2.2.2.1, kb h.2.2.2.2.2.2.2.1, bal h.2.2.2.2.2.2.2.2 _⟩
theorem ms_step {w W W' : World} {x : Obj} {A B R Q : Nat} {a0 a1 a2 a3 r0 r1 q0 q1 : Int} (hw : W.alloc x = W') (h : MxS w A B R Q a0 a1 a2 a3 r0 r1 q0 q1 W) : MxS w A B R Q a0 a1 a2 a3 r0 r1 q0 q1 W' := hw ▸ ms_alloc x h
theorem ms_step3 {w W W' : World} {x y z : Obj} {A B R Q : Nat} {a0 a1 a2 a3 r0 r1 q0 q1 : Int} (hw : ((W.alloc x).alloc y).alloc z = W') (h : MxS w A B R Q a0 a1 a2 a3 r0 r1 q0 q1 W) : MxS w A B R Q a0 a1 a2 a3 r0 r1 q0 q1 W' := hw ▸ ms_alloc z (ms_alloc y (ms_alloc x h))
set_option maxHeartbeats 4000000 in
theorem lt_case (a0 a1 a2 a3 : Int) (w : World) (h0 : 0 ≤ a0) (h1 : a0 ≤ 4294967284) (h2 : 0 ≤ a2) (h3 : a2 ≤ 4294967284) (v1 : validB a0 a1 = true) (v2 : validB a2 a3 = true) (hlt : a0 < a2) :
    Calls Try.prog 3 #[.int .u32 a0, .int .u32 a1, .int .u32 a2, .int .u32 a3] w fun e w' => e = .returned (.bool true) ∧ Below w.heap.size w w' := by
  have ne : (a0 == a2) = false := by simp; omega
  have nl : ¬ a2 < a0 := by omega
  go_enter Try.func3, Try.ntmps3
  go_upto_region 10 with (first
    | (go_at_call 7; refine (validRaw_any _ _ _ (by omega) (by omega)).mono ?_; rintro e w' ⟨rfl, rfl⟩)
    | (go_at_call 8; refine (mk_any _ _ _).mono ?_; rintro e w' ⟨rfl, rfl⟩)
    | (go_at_call 9; with_reducible refine (zmax a0 a1 a2 a3 a2 a3 _ (fun W => max_lt a0 a1 a2 a3 W v2 hlt)).mono ?_; rintro e w1 ⟨rfl, hb1⟩
       have c0 : w1.cell? ⟨w.heap.size + 1, 0, none⟩ = some (.int .u32 a0) := cell_later hb1 (by go_simp)
       have c1 : w1.cell? ⟨w.heap.size + 1, 1, none⟩ = some (.int .u32 a1) := cell_later hb1 (by go_simp)
       have c2 : w1.cell? ⟨w.heap.size + 1 + 1 + 1, 0, none⟩ = some (.int .u32 a2) := cell_later hb1 (by go_simp)
       have c3 : w1.cell? ⟨w.heap.size + 1 + 1 + 1, 1, none⟩ = some (.int .u32 a3) := cell_later hb1 (by go_simp)
       have HB1 := Lib.hid (b4 hb1)
       have hz1 : w.heap.size + 1 + 1 + 1 < w1.heap.size := (by have hq := hb1.size; simp only [World.size_alloc] at hq; omega)
       have hz0 : w.heap.size + 1 < w1.heap.size := by omega
       clear hb1)
    | (go_at_call 9; with_reducible refine (zmax a2 a3 a0 a1 a2 a3 _ (fun W => max_ge a2 a3 a0 a1 W v1 (by omega))).mono ?_; rintro e w2 ⟨rfl, hb2⟩
       have d0 : w2.cell? ⟨w.heap.size + 1, 0, none⟩ = some (.int .u32 a0) := cell_later hb2 (by go_simp)
       have d1 : w2.cell? ⟨w.heap.size + 1, 1, none⟩ = some (.int .u32 a1) := cell_later hb2 (by go_simp)
       have d2 : w2.cell? ⟨w.heap.size + 1 + 1 + 1, 0, none⟩ = some (.int .u32 a2) := cell_later hb2 (by go_simp)
       have d3 : w2.cell? ⟨w.heap.size + 1 + 1 + 1, 1, none⟩ = some (.int .u32 a3) := cell_later hb2 (by go_simp)
       have d4 : w2.cell? ⟨w1.heap.size, 0, none⟩ = some (.int .u32 a2) := cell_later hb2 (by go_simp)
       have d5 : w2.cell? ⟨w1.heap.size, 1, none⟩ = some (.int .u32 a3) := cell_later hb2 (by go_simp)
       have HB2 := Lib.hid hb2
       have hz2 : w1.heap.size < w2.heap.size := (by have hq := hb2.size; simp only [World.size_alloc] at hq; omega)
       have hz3 : w.heap.size + 1 < w2.heap.size := by omega
       have hz4 : w.heap.size + 1 + 1 + 1 < w2.heap.size := by omega
       clear hb2))
  have hS : MxS w (w.heap.size + 1) (w.heap.size + 1 + 1 + 1) w1.heap.size w2.heap.size a0 a1 a2 a3 a2 a3 a2 a3 (w2.alloc (.cells #[.int .u32 a2, .int .u32 a3] 25)) := by
    refine ⟨kb d0, kb d1, kb d2, kb d3, kb d4, kb d5, by go_simp, by go_simp, bal ((bal HB1.out _).trans (HB2.out.mono ?_)) _⟩
    have := HB1.out.size
    simp only [World.size_alloc]; omega
  clear c0 c1 c2 c3 d0 d1 d2 d3 d4 d5 HB1 HB2 hz0 hz1 hz2 hz3 hz4
  generalize (w2.alloc (.cells #[.int .u32 a2, .int .u32 a3] 25)) = W at *
  generalize w2.heap.size = Q at *
  generalize w1.heap.size = R at *
  generalize w.heap.size + 1 + 1 + 1 = B at *
  generalize w.heap.size + 1 = A at *
  have hS' := hS
  obtain ⟨s0, s1, s2, s3, s4, s5, s6, s7, sB⟩ := hS'
  clear s0 s1 s2 s3 s4 s5 s6 s7 sB
  have HS := Lib.hid hS
  obtain ⟨s0, s1, s2, s3, s4, s5, s6, s7, -⟩ := hS
  go_wp2_with (first
    | (go_at_call 10; refine (offset_in _ _ _ (by omega) (by omega)).mono ?_; rintro e w' ⟨rfl, hw⟩
       replace HS := Lib.hid (ms_step hw HS.out); clear hw s0 s1 s2 s3 s4 s5 s6 s7
       obtain ⟨s0, s1, s2, s3, s4, s5, s6, s7, -⟩ := HS.out)
    | (go_at_call 11; refine (after_any _ _ _ _ _ (by assumption)).mono ?_; rintro e w' ⟨rfl, hw⟩
       replace HS := Lib.hid (ms_step3 hw HS.out); clear hw s0 s1 s2 s3 s4 s5 s6 s7
       obtain ⟨s0, s1, s2, s3, s4, s5, s6, s7, -⟩ := HS.out))
  go_ret
  exact ⟨by simp; omega, by obtain ⟨-, -, -, -, -, -, -, -, h⟩ := HS.out; exact h⟩
set_option maxHeartbeats 4000000 in
theorem gt_case (a0 a1 a2 a3 : Int) (w : World) (h0 : 0 ≤ a0) (h1 : a0 ≤ 4294967284) (h2 : 0 ≤ a2) (h3 : a2 ≤ 4294967284) (v1 : validB a0 a1 = true) (v2 : validB a2 a3 = true) (hlt : a2 < a0) :
    Calls Try.prog 3 #[.int .u32 a0, .int .u32 a1, .int .u32 a2, .int .u32 a3] w fun e w' => e = .returned (.bool true) ∧ Below w.heap.size w w' := by
  have ne : (a0 == a2) = false := by simp; omega
  have nl : ¬ a0 < a2 := by omega
  go_enter Try.func3, Try.ntmps3
  go_upto_region 10 with (first
    | (go_at_call 7; refine (validRaw_any _ _ _ (by omega) (by omega)).mono ?_; rintro e w' ⟨rfl, rfl⟩)
    | (go_at_call 8; refine (mk_any _ _ _).mono ?_; rintro e w' ⟨rfl, rfl⟩)
    | (go_at_call 9; with_reducible refine (zmax a0 a1 a2 a3 a0 a1 _ (fun W => max_ge a0 a1 a2 a3 W v2 (by omega))).mono ?_; rintro e w1 ⟨rfl, hb1⟩
       have c0 : w1.cell? ⟨w.heap.size + 1, 0, none⟩ = some (.int .u32 a0) := cell_later hb1 (by go_simp)
       have c1 : w1.cell? ⟨w.heap.size + 1, 1, none⟩ = some (.int .u32 a1) := cell_later hb1 (by go_simp)
       have c2 : w1.cell? ⟨w.heap.size + 1 + 1 + 1, 0, none⟩ = some (.int .u32 a2) := cell_later hb1 (by go_simp)
       have c3 : w1.cell? ⟨w.heap.size + 1 + 1 + 1, 1, none⟩ = some (.int .u32 a3) := cell_later hb1 (by go_simp)
       have HB1 := Lib.hid (b4 hb1)
       have hz1 : w.heap.size + 1 + 1 + 1 < w1.heap.size := (by have hq := hb1.size; simp only [World.size_alloc] at hq; omega)
       have hz0 : w.heap.size + 1 < w1.heap.size := by omega
       clear hb1)
    | (go_at_call 9; with_reducible refine (zmax a2 a3 a0 a1 a0 a1 _ (fun W => max_lt a2 a3 a0 a1 W v1 hlt)).mono ?_; rintro e w2 ⟨rfl, hb2⟩
       have d0 : w2.cell? ⟨w.heap.size + 1, 0, none⟩ = some (.int .u32 a0) := cell_later hb2 (by go_simp)
       have d1 : w2.cell? ⟨w.heap.size + 1, 1, none⟩ = some (.int .u32 a1) := cell_later hb2 (by go_simp)
       have d2 : w2.cell? ⟨w.heap.size + 1 + 1 + 1, 0, none⟩ = some (.int .u32 a2) := cell_later hb2 (by go_simp)
       have d3 : w2.cell? ⟨w.heap.size + 1 + 1 + 1, 1, none⟩ = some (.int .u32 a3) := cell_later hb2 (by go_simp)
       have d4 : w2.cell? ⟨w1.heap.size, 0, none⟩ = some (.int .u32 a0) := cell_later hb2 (by go_simp)
       have d5 : w2.cell? ⟨w1.heap.size, 1, none⟩ = some (.int .u32 a1) := cell_later hb2 (by go_simp)
       have HB2 := Lib.hid hb2
       have hz2 : w1.heap.size < w2.heap.size := (by have hq := hb2.size; simp only [World.size_alloc] at hq; omega)
       have hz3 : w.heap.size + 1 < w2.heap.size := by omega
       have hz4 : w.heap.size + 1 + 1 + 1 < w2.heap.size := by omega
       clear hb2))
  have hS : MxS w (w.heap.size + 1) (w.heap.size + 1 + 1 + 1) w1.heap.size w2.heap.size a0 a1 a2 a3 a0 a1 a0 a1 (w2.alloc (.cells #[.int .u32 a0, .int .u32 a1] 25)) := by
    refine ⟨kb d0, kb d1, kb d2, kb d3, kb d4, kb d5, by go_simp, by go_simp, bal ((bal HB1.out _).trans (HB2.out.mono ?_)) _⟩
    have := HB1.out.size
    simp only [World.size_alloc]; omega
  clear c0 c1 c2 c3 d0 d1 d2 d3 d4 d5 HB1 HB2 hz0 hz1 hz2 hz3 hz4
  generalize (w2.alloc (.cells #[.int .u32 a0, .int .u32 a1] 25)) = W at *
  generalize w2.heap.size = Q at *
  generalize w1.heap.size = R at *
  generalize w.heap.size + 1 + 1 + 1 = B at *
  generalize w.heap.size + 1 = A at *
  have hS' := hS
  obtain ⟨s0, s1, s2, s3, s4, s5, s6, s7, sB⟩ := hS'
  clear s0 s1 s2 s3 s4 s5 s6 s7 sB
  have HS := Lib.hid hS
  obtain ⟨s0, s1, s2, s3, s4, s5, s6, s7, -⟩ := hS
  go_wp2_with (first
    | (go_at_call 10; refine (offset_in _ _ _ (by omega) (by omega)).mono ?_; rintro e w' ⟨rfl, hw⟩
       replace HS := Lib.hid (ms_step hw HS.out); clear hw s0 s1 s2 s3 s4 s5 s6 s7
       obtain ⟨s0, s1, s2, s3, s4, s5, s6, s7, -⟩ := HS.out)
    | (go_at_call 11; refine (after_any _ _ _ _ _ (by assumption)).mono ?_; rintro e w' ⟨rfl, hw⟩
       replace HS := Lib.hid (ms_step3 hw HS.out); clear hw s0 s1 s2 s3 s4 s5 s6 s7
       obtain ⟨s0, s1, s2, s3, s4, s5, s6, s7, -⟩ := HS.out))
  go_ret
  exact ⟨by simp; omega, by obtain ⟨-, -, -, -, -, -, -, -, h⟩ := HS.out; exact h⟩
set_option maxHeartbeats 4000000 in
theorem eq_case1 (a0 a1 a3 : Int) (w : World) (h0 : 0 ≤ a0) (h1 : a0 ≤ 4294967284) (v1 : validB a0 a1 = true) (v2 : validB a0 a3 = true) (h13 : (a3 == a1) = true) :
    Calls Try.prog 3 #[.int .u32 a0, .int .u32 a1, .int .u32 a0, .int .u32 a3] w fun e w' => e = .returned (.bool true) ∧ Below w.heap.size w w' := by
  have nl : ¬ a0 < a0 := by omega
  go_enter Try.func3, Try.ntmps3
  go_upto_region 10 with (first
    | (go_at_call 7; refine (validRaw_any _ _ _ (by omega) (by omega)).mono ?_; rintro e w' ⟨rfl, rfl⟩)
    | (go_at_call 8; refine (mk_any _ _ _).mono ?_; rintro e w' ⟨rfl, rfl⟩)
    | (go_at_call 9; with_reducible refine (zmax a0 a1 a0 a3 a0 a1 _ (fun W => max_ge a0 a1 a0 a3 W v2 (by omega))).mono ?_; rintro e w1 ⟨rfl, hb1⟩
       have c0 : w1.cell? ⟨w.heap.size + 1, 0, none⟩ = some (.int .u32 a0) := cell_later hb1 (by go_simp)
       have c1 : w1.cell? ⟨w.heap.size + 1, 1, none⟩ = some (.int .u32 a1) := cell_later hb1 (by go_simp)
       have c2 : w1.cell? ⟨w.heap.size + 1 + 1 + 1, 0, none⟩ = some (.int .u32 a0) := cell_later hb1 (by go_simp)
       have c3 : w1.cell? ⟨w.heap.size + 1 + 1 + 1, 1, none⟩ = some (.int .u32 a3) := cell_later hb1 (by go_simp)
       have HB1 := Lib.hid (b4 hb1)
       have hz1 : w.heap.size + 1 + 1 + 1 < w1.heap.size := (by have hq := hb1.size; simp only [World.size_alloc] at hq; omega)
       have hz0 : w.heap.size + 1 < w1.heap.size := by omega
       clear hb1)
    | (go_at_call 9; with_reducible refine (zmax a0 a3 a0 a1 a0 a3 _ (fun W => max_ge a0 a3 a0 a1 W v1 (by omega))).mono ?_; rintro e w2 ⟨rfl, hb2⟩
       have d0 : w2.cell? ⟨w.heap.size + 1, 0, none⟩ = some (.int .u32 a0) := cell_later hb2 (by go_simp)
       have d1 : w2.cell? ⟨w.heap.size + 1, 1, none⟩ = some (.int .u32 a1) := cell_later hb2 (by go_simp)
       have d2 : w2.cell? ⟨w.heap.size + 1 + 1 + 1, 0, none⟩ = some (.int .u32 a0) := cell_later hb2 (by go_simp)
       have d3 : w2.cell? ⟨w.heap.size + 1 + 1 + 1, 1, none⟩ = some (.int .u32 a3) := cell_later hb2 (by go_simp)
       have d4 : w2.cell? ⟨w1.heap.size, 0, none⟩ = some (.int .u32 a0) := cell_later hb2 (by go_simp)
       have d5 : w2.cell? ⟨w1.heap.size, 1, none⟩ = some (.int .u32 a1) := cell_later hb2 (by go_simp)
       have HB2 := Lib.hid hb2
       have hz2 : w1.heap.size < w2.heap.size := (by have hq := hb2.size; simp only [World.size_alloc] at hq; omega)
       have hz3 : w.heap.size + 1 < w2.heap.size := by omega
       have hz4 : w.heap.size + 1 + 1 + 1 < w2.heap.size := by omega
       clear hb2))
  have hS : MxS w (w.heap.size + 1) (w.heap.size + 1 + 1 + 1) w1.heap.size w2.heap.size a0 a1 a0 a3 a0 a1 a0 a3 (w2.alloc (.cells #[.int .u32 a0, .int .u32 a3] 25)) := by
    refine ⟨kb d0, kb d1, kb d2, kb d3, kb d4, kb d5, by go_simp, by go_simp, bal ((bal HB1.out _).trans (HB2.out.mono ?_)) _⟩
    have := HB1.out.size
    simp only [World.size_alloc]; omega
  clear c0 c1 c2 c3 d0 d1 d2 d3 d4 d5 HB1 HB2 hz0 hz1 hz2 hz3 hz4
  generalize (w2.alloc (.cells #[.int .u32 a0, .int .u32 a3] 25)) = W at *
  generalize w2.heap.size = Q at *
  generalize w1.heap.size = R at *
  generalize w.heap.size + 1 + 1 + 1 = B at *
  generalize w.heap.size + 1 = A at *
  have hS' := hS
  obtain ⟨s0, s1, s2, s3, s4, s5, s6, s7, sB⟩ := hS'
  clear s0 s1 s2 s3 s4 s5 s6 s7 sB
  have HS := Lib.hid hS
  obtain ⟨s0, s1, s2, s3, s4, s5, s6, s7, -⟩ := hS
  go_wp2_with (first
    | (go_at_call 10; refine (offset_in _ _ _ (by omega) (by omega)).mono ?_; rintro e w' ⟨rfl, hw⟩
       replace HS := Lib.hid (ms_step hw HS.out); clear hw s0 s1 s2 s3 s4 s5 s6 s7
       obtain ⟨s0, s1, s2, s3, s4, s5, s6, s7, -⟩ := HS.out)
    | (go_at_call 11; refine (after_any _ _ _ _ _ (by assumption)).mono ?_; rintro e w' ⟨rfl, hw⟩
       replace HS := Lib.hid (ms_step3 hw HS.out); clear hw s0 s1 s2 s3 s4 s5 s6 s7
       obtain ⟨s0, s1, s2, s3, s4, s5, s6, s7, -⟩ := HS.out))
  go_ret
  exact ⟨by simp, by obtain ⟨-, -, -, -, -, -, -, -, h⟩ := HS.out; exact h⟩
set_option maxHeartbeats 4000000 in
theorem eq_case2 (a0 a1 a3 : Int) (w : World) (h0 : 0 ≤ a0) (h1 : a0 ≤ 4294967284) (v1 : validB a0 a1 = true) (v2 : validB a0 a3 = true) (h13 : (a3 == a1) = false) :
    Calls Try.prog 3 #[.int .u32 a0, .int .u32 a1, .int .u32 a0, .int .u32 a3] w fun e w' => e = .returned (.bool true) ∧ Below w.heap.size w w' := by
  have nl : ¬ a0 < a0 := by omega
  go_enter Try.func3, Try.ntmps3
  go_upto_region 10 with (first
    | (go_at_call 7; refine (validRaw_any _ _ _ (by omega) (by omega)).mono ?_; rintro e w' ⟨rfl, rfl⟩)
    | (go_at_call 8; refine (mk_any _ _ _).mono ?_; rintro e w' ⟨rfl, rfl⟩)
    | (go_at_call 9; with_reducible refine (zmax a0 a1 a0 a3 a0 a1 _ (fun W => max_ge a0 a1 a0 a3 W v2 (by omega))).mono ?_; rintro e w1 ⟨rfl, hb1⟩
       have c0 : w1.cell? ⟨w.heap.size + 1, 0, none⟩ = some (.int .u32 a0) := cell_later hb1 (by go_simp)
       have c1 : w1.cell? ⟨w.heap.size + 1, 1, none⟩ = some (.int .u32 a1) := cell_later hb1 (by go_simp)
       have c2 : w1.cell? ⟨w.heap.size + 1 + 1 + 1, 0, none⟩ = some (.int .u32 a0) := cell_later hb1 (by go_simp)
       have c3 : w1.cell? ⟨w.heap.size + 1 + 1 + 1, 1, none⟩ = some (.int .u32 a3) := cell_later hb1 (by go_simp)
       have HB1 := Lib.hid (b4 hb1)
       have hz1 : w.heap.size + 1 + 1 + 1 < w1.heap.size := (by have hq := hb1.size; simp only [World.size_alloc] at hq; omega)
       have hz0 : w.heap.size + 1 < w1.heap.size := by omega
       clear hb1)
    | (go_at_call 9; with_reducible refine (zmax a0 a3 a0 a1 a0 a3 _ (fun W => max_ge a0 a3 a0 a1 W v1 (by omega))).mono ?_; rintro e w2 ⟨rfl, hb2⟩
       have d0 : w2.cell? ⟨w.heap.size + 1, 0, none⟩ = some (.int .u32 a0) := cell_later hb2 (by go_simp)
       have d1 : w2.cell? ⟨w.heap.size + 1, 1, none⟩ = some (.int .u32 a1) := cell_later hb2 (by go_simp)
       have d2 : w2.cell? ⟨w.heap.size + 1 + 1 + 1, 0, none⟩ = some (.int .u32 a0) := cell_later hb2 (by go_simp)
       have d3 : w2.cell? ⟨w.heap.size + 1 + 1 + 1, 1, none⟩ = some (.int .u32 a3) := cell_later hb2 (by go_simp)
       have d4 : w2.cell? ⟨w1.heap.size, 0, none⟩ = some (.int .u32 a0) := cell_later hb2 (by go_simp)
       have d5 : w2.cell? ⟨w1.heap.size, 1, none⟩ = some (.int .u32 a1) := cell_later hb2 (by go_simp)
       have HB2 := Lib.hid hb2
       have hz2 : w1.heap.size < w2.heap.size := (by have hq := hb2.size; simp only [World.size_alloc] at hq; omega)
       have hz3 : w.heap.size + 1 < w2.heap.size := by omega
       have hz4 : w.heap.size + 1 + 1 + 1 < w2.heap.size := by omega
       clear hb2))
  have hS : MxS w (w.heap.size + 1) (w.heap.size + 1 + 1 + 1) w1.heap.size w2.heap.size a0 a1 a0 a3 a0 a1 a0 a3 (w2.alloc (.cells #[.int .u32 a0, .int .u32 a3] 25)) := by
    refine ⟨kb d0, kb d1, kb d2, kb d3, kb d4, kb d5, by go_simp, by go_simp, bal ((bal HB1.out _).trans (HB2.out.mono ?_)) _⟩
    have := HB1.out.size
    simp only [World.size_alloc]; omega
  clear c0 c1 c2 c3 d0 d1 d2 d3 d4 d5 HB1 HB2 hz0 hz1 hz2 hz3 hz4
  generalize (w2.alloc (.cells #[.int .u32 a0, .int .u32 a3] 25)) = W at *
  generalize w2.heap.size = Q at *
  generalize w1.heap.size = R at *
  generalize w.heap.size + 1 + 1 + 1 = B at *
  generalize w.heap.size + 1 = A at *
  have hS' := hS
  obtain ⟨s0, s1, s2, s3, s4, s5, s6, s7, sB⟩ := hS'
  clear s0 s1 s2 s3 s4 s5 s6 s7 sB
  have HS := Lib.hid hS
  obtain ⟨s0, s1, s2, s3, s4, s5, s6, s7, -⟩ := hS
  go_wp2_with (first
    | (go_at_call 10; refine (offset_in _ _ _ (by omega) (by omega)).mono ?_; rintro e w' ⟨rfl, hw⟩
       replace HS := Lib.hid (ms_step hw HS.out); clear hw s0 s1 s2 s3 s4 s5 s6 s7
       obtain ⟨s0, s1, s2, s3, s4, s5, s6, s7, -⟩ := HS.out)
    | (go_at_call 11; refine (after_any _ _ _ _ _ (by assumption)).mono ?_; rintro e w' ⟨rfl, hw⟩
       replace HS := Lib.hid (ms_step3 hw HS.out); clear hw s0 s1 s2 s3 s4 s5 s6 s7
       obtain ⟨s0, s1, s2, s3, s4, s5, s6, s7, -⟩ := HS.out))
  go_ret
  exact ⟨by simp, by obtain ⟨-, -, -, -, -, -, -, -, h⟩ := HS.out; exact h⟩
theorem walk (a0 : Int) (a1 : Int) (a2 : Int) (a3 : Int) (w0 : (Lit.int .u32 a0).wf = true) (w1 : (Lit.int .u32 a1).wf = true) (w2 : (Lit.int .u32 a2).wf = true) (w3 : (Lit.int .u32 a3).wf = true) (w : World) :
    Calls Try.prog 3 #[.int .u32 a0, .int .u32 a1, .int .u32 a2, .int .u32 a3] w fun e w' => e = .returned (.bool true) ∧ Below w.heap.size w w' := by
  have b0 := bounds_u32 w0
  have b1 := bounds_u32 w1
  have b2 := bounds_u32 w2
  have b3 := bounds_u32 w3
  clear w0 w1 w2 w3
  rcases Bool.eq_false_or_eq_true (validB a0 a1) with v1 | v1
  rotate_left
  · go_enter Try.func3, Try.ntmps3
    go_wp2_with (go_at_call 7; refine (validRaw_any _ _ _ (by omega) (by omega)).mono ?_; rintro e w' ⟨rfl, rfl⟩)
    go_ret
    exact ⟨rfl, Below.refl _ _⟩
  rcases Bool.eq_false_or_eq_true (validB a2 a3) with v2 | v2
  rotate_left
  · go_enter Try.func3, Try.ntmps3
    go_wp2_with (go_at_call 7; refine (validRaw_any _ _ _ (by omega) (by omega)).mono ?_; rintro e w' ⟨rfl, rfl⟩)
    go_ret
    exact ⟨rfl, Below.refl _ _⟩
  have k1 := validB_le v1
  have k2 := validB_le v2
  rcases Int.lt_trichotomy a0 a2 with h | h | h
  · exact lt_case a0 a1 a2 a3 w b0.1 k1 b2.1 k2 v1 v2 h
  · subst h
    rcases Bool.eq_false_or_eq_true (a3 == a1) with z | z
    · exact eq_case1 a0 a1 a3 w b0.1 k1 v1 v2 z
    · exact eq_case2 a0 a1 a3 w b0.1 k1 v1 v2 z
  · exact gt_case a0 a1 a2 a3 w b0.1 k1 b2.1 k2 v1 v2 h

/-! ### THE ROW's STEP: WRITTEN OUT: LEAVE IT -/
set_option maxRecDepth 100000 in
theorem lifted (os : Os) (started : os.Started) (H : Type) (enc : TypeId × Value → H) :
    ReturnsInHanded {} Try.checked os 3 .any (Rows.fnPosMaxOrderSpec.pre6 enc Try.prog Try.f3 Rows.fnPosMaxOrderRow.domain false) (Rows.fnPosMaxOrderSpec.post enc Try.prog Try.f3 false true false false) := by
  refine returnsInHanded_of_change (C := Try.checked) own started (by kernel_rfl) Try.func3
    (ChangeSpec.witness6 (enc := enc) (C := Try.checked) false ⟨#[], #[.int .u32 0, .int .u32 0, .int .u32 0, .int .u32 0], []⟩ 8 (by kernel_rfl) (by kernel_rfl) (by kernel_rfl) (by kernel_rfl)) ?_
  intro W base args ds gs before hval0 hW hcnd _
  have hval : ∀ (j : Nat) t v, Try.f3.params[j]? = some t → args[j]? = some v → Value.okWide Try.prog W .any base t v := hval0
  have hW' := hW
  obtain ⟨p, q, hA0, hV, rfl, hfz, hnd⟩ := hW
  have hA : DataW.TrodAll enc Try.prog W 0 (fun _ => true) true Try.f3.params.toList args.toList ds p := hA0
  rw [Try.params3] at hA hval
  obtain ⟨v0, vs0, d0, ds0, p0, q0, hargs, rfl, rfl, h0, r0⟩ := trodAll_cons hA
  obtain ⟨v1, vs1, d1, ds1, p1, q1, rfl, rfl, rfl, h1, r1⟩ := trodAll_cons r0
  obtain ⟨v2, vs2, d2, ds2, p2, q2, rfl, rfl, rfl, h2, r2⟩ := trodAll_cons r1
  obtain ⟨v3, vs3, d3, ds3, p3, q3, rfl, rfl, rfl, h3, r3⟩ := trodAll_cons r2
  obtain ⟨rfl, rfl, rfl⟩ := trodAll_nil r3
  obtain rfl : args = #[v0, v1, v2, v3] := by cases args; simp_all
  obtain ⟨rfl, rfl⟩ := trodVars_none hV
  obtain ⟨a0, rfl, rfl, rfl, w0⟩ := open_int Try.underlying22 (hval 0 22 v0 rfl rfl) h0
  obtain ⟨a1, rfl, rfl, rfl, w1⟩ := open_int Try.underlying22 (hval 1 22 v1 rfl rfl) h1
  obtain ⟨a2, rfl, rfl, rfl, w2⟩ := open_int Try.underlying22 (hval 2 22 v2 rfl rfl) h2
  obtain ⟨a3, rfl, rfl, rfl, w3⟩ := open_int Try.underlying22 (hval 3 22 v3 rfl rfl) h3
  clear hA0 hval0
  simp only [List.append_nil] at hW'
  refine (walk a0 a1 a2 a3 w0 w1 w2 w3 W).mono fun e W' ⟨he, bel⟩ => ?_
  subst he
  exact ⟨_, rfl, _, _, _, [], [], [], hW', (trodAll_cons_mk (shut_bool Try.underlying4 _) trodAll_mk0), (trodAll_cons_mk (shut_int Try.underlying22 w0) (trodAll_cons_mk (shut_int Try.underlying22 w1) (trodAll_cons_mk (shut_int Try.underlying22 w2) (trodAll_cons_mk (shut_int Try.underlying22 w3) trodAll_mk0)))), rfl, bel.frame _, fun h => by cases h⟩

theorem over : Rows.fnPosMaxOrderRow.holds Try.pinned (OpenSpec.ofChange Rows.fnPosMaxOrderSpec) :=
  OpenClaim.holds_of_wide 3 Try.f3 rfl rfl rfl rfl rfl rfl rfl ⟨rfl, rfl, rfl, rfl, rfl⟩ rfl rfl rfl rfl rfl (by kernel_rfl) Try.func3 (by kernel_rfl)
    (of_decide_eq_true (by kernel_rfl)) (by unfold Func.isWrapper; first | (rw [if_pos (by decide +kernel)]; kernel_rfl) | (rw [if_neg (by decide +kernel)]; exact ⟨rfl, rfl⟩))
    (fun os started H enc _ => lifted os started H enc)

/-- ████ THE STATEMENT ████ -/
theorem proved : Rows.FnPosMaxOrderSaid :=
  over
#print axioms proved
end Go.Proofs.Ytijilflnfdgdnaa.fnPosMaxOrder
