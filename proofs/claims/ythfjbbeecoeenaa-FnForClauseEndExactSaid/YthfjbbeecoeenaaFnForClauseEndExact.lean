/- Proved here: ForClause.End is the position just past the closing keyword (or the invalid position itself), for every position that the package can produce (FnForClauseEndExact returns true). No conditions. -/
import Derived.Test.YthfjbbeecoeenaaRows
import Derived.WalkKit
import Derived.Test.YthfjbbeecoeenaaFor
import Derived.Deep.RegionHeld3
import Derived.Deep.DeepCutAuto
import Derived.ProofKit
import Derived.Below
import Derived.OpenShut
import Derived.ShutString
namespace Go.Proofs.Ythfjbbeecoeenaa.fnForClauseEndExact
open Go.ChangeShapes Go.WideShapes Go.ChangeAt Go.RowKit
open Go.ChangeMaps (open_string shut_string)
set_option linter.unusedVariables false      -- a walk need not use every 'w<i>' (that an integer argument fits its kind)

theorem own : ownKnob Try.prog.godebug = none := by kernel_rfl

/-! ### STEP 1: THE WALK: the Go text returns true. 'Below w.heap.size w w'': the world has at most new blocks (Derived/RowKit3.lean). Part the cases AHEAD of 'go_enter' where a test parts the walk; take each callee by a contract of your own. -/
theorem lc_div {l c : Int} (h2 : 0 ≤ c) (h3 : c ≤ 16383) : (l * 16384 + c) / 16384 = l := by omega
theorem lc_mod {l c : Int} (h2 : 0 ≤ c) (h3 : c ≤ 16383) : (l * 16384 + c) % 16384 = c := by omega
theorem kOf_bd (br : Bool) : 0 ≤ kOf br ∧ kOf br ≤ 100 := by cases br <;> decide
theorem addLC_eq {l c n C : Int} (h2 : 0 ≤ c) (h3 : c ≤ 16383) (hC : (c ≤ 0 ∧ C = 0) ∨ ((0 < c ∧ c + n ≤ 16383) ∧ C = c + n) ∨ ((0 < c ∧ 16383 < c + n) ∧ C = 0)) : addLC (l * 16384 + c) n = l * 16384 + C := by
  unfold addLC addC
  rw [lc_div h2 h3, lc_mod h2 h3]
  split <;> omega
theorem addO_eq {o n O : Int} (hO : (o + n ≤ 4294967284 ∧ O = o + n) ∨ (4294967284 < o + n ∧ O = 4294967284)) : addO o n = O := by
  unfold addO; split <;> omega
theorem bset {w W : World} (h : Below w.heap.size w W) {p : Addr} (hp : w.heap.size ≤ p.block) (v : Value) : Below w.heap.size w (W.setCell p v) := h.setCell hp v
theorem b3 {w w1 : World} {a b c : Obj} (h : Below (((w.alloc a).alloc b).alloc c).heap.size (((w.alloc a).alloc b).alloc c) w1) : Below w.heap.size w w1 := by
  refine Below.trans (b := (((w.alloc a).alloc b).alloc c)) ?_ (h.mono (by simp only [World.size_alloc]; omega))
  exact (((Below.refl _ _).alloc (Nat.le_refl _) _).alloc (by simp only [World.size_alloc]; omega) _).alloc (by simp only [World.size_alloc]; omega) _
/-- did the column fit? -/
def bC (C : Int) : Bool := decide (0 < C)
theorem bC_t {C : Int} (h : 0 < C) : bC C = true := decide_eq_true h
theorem bC_f : bC 0 = false := by decide
theorem wantL (O l C O' C' EL : Int) (w : World) (hO : O = O') (hC : C = C') (hE : EL = l * 16384 + C) (h0 : 0 ≤ l) (h1 : l ≤ 262143) (h2 : 0 ≤ C) (h3 : C ≤ 16383) :
    Calls Try.prog 12 #[.int .u32 O', .int .u32 l, .int .u32 C'] w fun e w' => e = .returned (posV O EL) ∧ w.alloc (posC O EL) = w' := by
  subst hO hC hE
  exact newPos98 O l C w h0 h1 h2 h3
/-- what the last statement keeps: the four positions in memory, and all that was there -/
def EndS (w : World) (e q d f : Nat) (O EL o DL : Int) (W : World) : Prop :=
  W.cell? ⟨e, 0, none⟩ = some (.int .u32 O) ∧ W.cell? ⟨e, 1, none⟩ = some (.int .u32 EL) ∧ W.cell? ⟨q, 0, none⟩ = some (.int .u32 O) ∧ W.cell? ⟨q, 1, none⟩ = some (.int .u32 EL) ∧
  W.cell? ⟨d, 0, none⟩ = some (.int .u32 o) ∧ W.cell? ⟨d, 1, none⟩ = some (.int .u32 DL) ∧ W.cell? ⟨f, 4, none⟩ = some (.int .u32 o) ∧ W.cell? ⟨f, 5, none⟩ = some (.int .u32 DL) ∧ Below w.heap.size w W
theorem es_drew {w W : World} {e q d f : Nat} {O EL o DL : Int} (h : EndS w e q d f O EL o DL W) : EndS w e q d f O EL o DL W.drew :=
  ⟨h.1, h.2.1, h.2.2.1, h.2.2.2.1, h.2.2.2.2.1, h.2.2.2.2.2.1, h.2.2.2.2.2.2.1, h.2.2.2.2.2.2.2.1, h.2.2.2.2.2.2.2.2.drew⟩
theorem es_alloc {w W : World} {e q d f : Nat} {O EL o DL : Int} (x : Obj) (h : EndS w e q d f O EL o DL W) : EndS w e q d f O EL o DL (W.alloc x) :=
  ⟨kb h.1, kb h.2.1, kb h.2.2.1, kb h.2.2.2.1, kb h.2.2.2.2.1, kb h.2.2.2.2.2.1, kb h.2.2.2.2.2.2.1, kb h.2.2.2.2.2.2.2.1, bal h.2.2.2.2.2.2.2.2 _⟩
theorem es_allocD {w W : World} {e q d f : Nat} {O EL o DL : Int} (x : Obj) (h : EndS w e q d f O EL o DL W.drew) : EndS w e q d f O EL o DL (W.alloc x).drew :=
  es_drew (es_alloc x ⟨h.1, h.2.1, h.2.2.1, h.2.2.2.1, h.2.2.2.2.1, h.2.2.2.2.2.1, h.2.2.2.2.2.2.1, h.2.2.2.2.2.2.2.1, ⟨h.2.2.2.2.2.2.2.2.os, h.2.2.2.2.2.2.2.2.tape, h.2.2.2.2.2.2.2.2.output, h.2.2.2.2.2.2.2.2.size, h.2.2.2.2.2.2.2.2.block⟩⟩)
set_option maxRecDepth 100000 in
set_option maxHeartbeats 8000000 in
/-- the valid case -/
theorem ok_case (o l c O C : Int) (br : Bool) (w : World) (h0 : 0 ≤ o) (h1 : o ≤ 4294967284) (l0 : 0 ≤ l) (l1 : l ≤ 262143) (c0 : 0 ≤ c) (c1 : c ≤ 16383) (hv : (l == 0) = false ∨ ((l == 0) = true ∧ (c == 0) = false))
    (hO : (o + kOf br ≤ 4294967284 ∧ O = o + kOf br) ∨ (4294967284 < o + kOf br ∧ O = 4294967284))
    (hC : (c ≤ 0 ∧ C = 0) ∨ ((0 < c ∧ c + kOf br ≤ 16383) ∧ C = c + kOf br) ∨ ((0 < c ∧ 16383 < c + kOf br) ∧ C = 0)) :
    Calls Try.prog 7 #[.int .u32 o, .int .u32 l, .int .u32 c, .bool br] w fun e w' => e = .returned (.bool true) ∧ Below w.heap.size w w' := by
  have hn : l * 16384 + c ≠ 0 := by
    rcases hv with h | ⟨h, g⟩ <;> simp only [beq_iff_eq, beq_eq_false_iff_ne] at h
    · omega
    · simp only [beq_eq_false_iff_ne] at g; omega
  have hval := validB_t h1 hn
  have hEO : avO o (l * 16384 + c) (kOf br) = O := by rw [avO_t hval]; exact addO_eq hO
  have hEL : avL o (l * 16384 + c) (kOf br) = l * 16384 + C := by rw [avL_t hval]; exact addLC_eq c0 c1 hC
  have hC0 : 0 ≤ C ∧ C ≤ 16383 := by have := kOf_bd br; omega
  have hO0 : 0 ≤ O ∧ O ≤ 4294967284 := by have := kOf_bd br; omega
  obtain ⟨DL, hDL⟩ : ∃ DL, DL = l * 16384 + c := ⟨_, rfl⟩
  obtain ⟨EL, hELE⟩ : ∃ EL, EL = l * 16384 + C := ⟨_, rfl⟩
  have hdiv : EL / 16384 = l := by omega
  have hE0 : 0 ≤ EL ∧ EL ≤ 4294967295 := by omega
  have hEnd := fun (b : Nat) (W : World) (h : FcAt W b o DL br) => fcEnd_any b o DL br W h h0 (by omega) (by omega)
  rw [hDL, hEO, hEL, ← hDL, ← hELE] at hEnd
  have HEnd := Lib.hid hEnd
  have HF := Lib.hid (fun W => wantL o l c o c DL W rfl rfl hDL l0 l1 c0 c1)
  have HW := Lib.hid (fun W => wantL O l C O C EL W rfl rfl hELE l0 l1 hC0.1 hC0.2)
  have HL : Hid (∀ W, Calls Try.prog 26 #[posV O EL] W fun e w' => e = .returned (.int .u64 l) ∧ W.alloc (posC O EL) = w') := fun W => by
    have := line_any O EL W hE0.1 hE0.2
    rwa [hdiv] at this
  clear hEnd hEO hEL hval hn hDL hELE hdiv
  have hk : kOf br = 1 ∧ br = true ∨ kOf br = 4 ∧ br = false := by cases br <;> decide
  have HO := Lib.hid hO
  have HC := Lib.hid hC
  clear hO hC
  rcases hk with ⟨hk, rfl⟩ | ⟨hk, rfl⟩ <;> rw [hk] at HO HC <;> clear hk <;> rcases hv with hv | ⟨hv, hv2⟩
  all_goals
    go_enter Try.func7, Try.ntmps7
    go_upto_if 56 with (first | (go_at_call 11; go_in) | (go_at_call 12; (with_reducible refine (HF.out _).mono ?_); rintro e w' ⟨rfl, rfl⟩) | (go_at_call 15; (refine (HEnd.out _ _ ?_).mono ?_; (focus (exact ⟨by go_simp, by go_simp, by go_simp⟩))); rintro e w1 ⟨rfl, hb1⟩; have HB := Lib.hid (b3 hb1); have d0 : w1.cell? ⟨w.heap.size + 1, 0, none⟩ = some (.int .u32 o) := cell_later hb1 (by go_simp); have d1 : w1.cell? ⟨w.heap.size + 1, 1, none⟩ = some (.int .u32 DL) := cell_later hb1 (by go_simp); have x4 : w1.cell? ⟨w.heap.size + 1 + 1, 4, none⟩ = some (.int .u32 o) := cell_later hb1 (by go_simp); have x5 : w1.cell? ⟨w.heap.size + 1 + 1, 5, none⟩ = some (.int .u32 DL) := cell_later hb1 (by go_simp); have HD : Hid (w1.cell? ⟨w.heap.size + 1, 0, none⟩ = some (.int .u32 o) ∧ w1.cell? ⟨w.heap.size + 1, 1, none⟩ = some (.int .u32 DL) ∧ w1.cell? ⟨w.heap.size + 1 + 1, 4, none⟩ = some (.int .u32 o) ∧ w1.cell? ⟨w.heap.size + 1 + 1, 5, none⟩ = some (.int .u32 DL)) := ⟨d0, d1, x4, x5⟩; clear hb1 d0 d1 x4 x5))
    go_cut [13] (fun s wx => s = .int .u64 O ∧ wx = w1.alloc (.cells #[.int .u32 O, .int .u32 EL] 34))
    case first =>
      rcases HO.out with ⟨hO, rfl⟩ | ⟨hO, rfl⟩ <;> (go_wp2_with fail; go_meet; exact ⟨rfl, rfl⟩)
    case rest =>
      obtain ⟨rfl, rfl⟩ := hcut
      go_upto_region 15 with fail
      go_cut [64] (fun s wx => s = .bool (bC C) ∧ wx = w1.alloc (.cells #[.int .u32 O, .int .u32 EL] 34))
      case first =>
        rcases HC.out with ⟨hC, rfl⟩ | ⟨⟨hC, hD⟩, rfl⟩ | ⟨⟨hC, hD⟩, rfl⟩
        · obtain rfl : c = 0 := by omega
          go_wp2_with fail
          go_meet
          exact ⟨by first | (rw [bC_f]; done) | (rw [bC_f, decide_eq_false (by omega)]), rfl⟩
        · have hc : (c != 0) = true := by simp; omega
          go_wp2_with fail
          go_meet
          exact ⟨by first | (rw [bC_t (by omega)]; done) | (rw [bC_t (by omega), decide_eq_true (by omega)]), rfl⟩
        · have hc : (c != 0) = true := by simp; omega
          go_wp2_with fail
          go_meet
          exact ⟨by first | (rw [bC_f]; done) | (rw [bC_f, decide_eq_false (by omega)]), rfl⟩
      case rest =>
        obtain ⟨rfl, rfl⟩ := hcut
        go_upto_if 64 with fail
        go_cut [14] (fun s wx => s = .int .u32 C ∧ wx = w1.alloc (.cells #[.int .u32 O, .int .u32 EL] 34))
        case first =>
          rcases HC.out with ⟨hC, rfl⟩ | ⟨⟨hC, hD⟩, rfl⟩ | ⟨⟨hC, hD⟩, rfl⟩
          · rw [bC_f]
            go_wp2_with fail
            go_meet
            exact ⟨rfl, rfl⟩
          · rw [bC_t (by omega)]
            go_wp2_with fail
            go_meet
            exact ⟨rfl, rfl⟩
          · rw [bC_f]
            go_wp2_with fail
            go_meet
            exact ⟨rfl, rfl⟩
        case rest =>
          obtain ⟨rfl, rfl⟩ := hcut
          go_wp2_with (go_at_call 12; (with_reducible refine (HW.out _).mono ?_); rintro e w' ⟨rfl, rfl⟩)
          have hS : EndS w w1.heap.size (w1.heap.size + 1 + 1) (w.heap.size + 1) (w.heap.size + 1 + 1) O EL o DL (((w1.alloc (.cells #[.int .u32 O, .int .u32 EL] 34)).alloc (posC O EL)).alloc (.cells #[.int .u32 O, .int .u32 EL] 34)) := by
            obtain ⟨d0, d1, x4, x5⟩ := HD.out
            refine ⟨by go_simp, by go_simp, by go_simp, by go_simp, kb (kb (kb d0)), kb (kb (kb d1)), kb (kb (kb x4)), kb (kb (kb x5)), bal (bal (bal HB.out _) _) _⟩
          clear HD HB
          generalize (((w1.alloc (.cells #[.int .u32 O, .int .u32 EL] 34)).alloc (posC O EL)).alloc (.cells #[.int .u32 O, .int .u32 EL] 34)) = W at *
          generalize w1.heap.size + 1 + 1 = q at *
          generalize w1.heap.size = ee at *
          generalize w.heap.size + 1 + 1 = ff at *
          generalize w.heap.size + 1 = dd at *
          have hS' := hS
          obtain ⟨s0, s1, s2, s3, s4, s5, s6, s7, sB⟩ := hS'
          have hwl : IntKind.u64.wrap l = l := IntWalk.u64_in _ ⟨l0, by omega⟩
          go_region_held3 (fun W => W.cell? ⟨ee, 0, none⟩ = some (.int .u32 O) ∧ W.cell? ⟨ee, 1, none⟩ = some (.int .u32 EL) ∧ W.cell? ⟨q, 0, none⟩ = some (.int .u32 O) ∧ W.cell? ⟨q, 1, none⟩ = some (.int .u32 EL) ∧
              W.cell? ⟨dd, 0, none⟩ = some (.int .u32 o) ∧ W.cell? ⟨dd, 1, none⟩ = some (.int .u32 DL) ∧ W.cell? ⟨ff, 4, none⟩ = some (.int .u32 o) ∧ W.cell? ⟨ff, 5, none⟩ = some (.int .u32 DL) ∧ Below w.heap.size w W)
            (first | exact es_drew hS | (go_split_ands; exact es_allocD _ ⟨‹_›, ‹_›, ‹_›, ‹_›, ‹_›, ‹_›, ‹_›, ‹_›, ‹_›⟩))
            (first | (go_at_call 26; refine (HL.out _).mono ?_; rintro e w' ⟨rfl, rfl⟩))
          all_goals
            go_wp2
            go_ret
            exact ⟨by simp, by go_split_ands; assumption⟩
set_option maxRecDepth 100000 in
set_option maxHeartbeats 4000000 in
/-- the invalid positions: End gives them back -/
theorem bad_case (o : Int) (br : Bool) (w : World) (h0 : 0 ≤ o) (ho : o ≤ 4294967284 ∨ o = 4294967285) :
    Calls Try.prog 7 #[.int .u32 o, .int .u32 0, .int .u32 0, .bool br] w fun e w' => e = .returned (.bool true) ∧ Below w.heap.size w w' := by
  have hval := validB_z o
  have hEnd := fun (b : Nat) (W : World) (h : FcAt W b o 0 br) => fcEnd_any b o 0 br W h h0 (by omega) (by omega)
  rw [avO_f hval, avL_f hval] at hEnd
  have HEnd := Lib.hid hEnd
  have HF := Lib.hid (fun W => wantL o 0 0 o 0 0 W rfl rfl rfl (by omega) (by omega) (by omega) (by omega))
  clear hEnd
  rcases ho with ho | ho
  · go_enter Try.func7, Try.ntmps7
    go_wp2_with (first | (go_at_call 11; go_in) | (go_at_call 12; (with_reducible refine (HF.out _).mono ?_); rintro e w' ⟨rfl, rfl⟩) | (go_at_call 15; (refine (HEnd.out _ _ ?_).mono ?_; (focus (exact ⟨by go_simp, by go_simp, by go_simp⟩))); rintro e w1 ⟨rfl, hb1⟩; have HB := Lib.hid (b3 hb1); have d0 : w1.cell? ⟨w.heap.size + 1, 0, none⟩ = some (.int .u32 o) := cell_later hb1 (by go_simp); have d1 : w1.cell? ⟨w.heap.size + 1, 1, none⟩ = some (.int .u32 0) := cell_later hb1 (by go_simp); have hz1 : w.heap.size + 1 < w1.heap.size := (by have hq := hb1.size; simp only [World.size_alloc] at hq; omega); clear hb1) | (go_at_call 25; refine (isValid_any _ _ _).mono ?_; rintro e w' ⟨rfl, rfl⟩))
    go_ret
    exact ⟨by simp, by repeat (first | exact HB.out | apply Below.drew | apply bal)⟩
  · have e1 : (o == 4294967285) = true := by simpa using ho
    have e2 : 4294967284 < o := by omega
    have HO := Lib.hid ho
    clear ho
    go_enter Try.func7, Try.ntmps7
    go_wp2_with (first | (go_at_call 11; go_in) | (go_at_call 12; (with_reducible refine (HF.out _).mono ?_); rintro e w' ⟨rfl, rfl⟩) | (go_at_call 15; (refine (HEnd.out _ _ ?_).mono ?_; (focus (exact ⟨by go_simp, by go_simp, by go_simp⟩))); rintro e w1 ⟨rfl, hb1⟩; have HB := Lib.hid (b3 hb1); have d0 : w1.cell? ⟨w.heap.size + 1, 0, none⟩ = some (.int .u32 o) := cell_later hb1 (by go_simp); have d1 : w1.cell? ⟨w.heap.size + 1, 1, none⟩ = some (.int .u32 0) := cell_later hb1 (by go_simp); have hz1 : w.heap.size + 1 < w1.heap.size := (by have hq := hb1.size; simp only [World.size_alloc] at hq; omega); clear hb1) | (go_at_call 25; refine (isValid_any _ _ _).mono ?_; rintro e w' ⟨rfl, rfl⟩))
    go_ret
    exact ⟨by simp, by repeat (first | exact HB.out | apply Below.drew | apply bal)⟩
set_option maxHeartbeats 1000000 in
theorem walk (a0 : Int) (a1 : Int) (a2 : Int) (a3 : Bool) (w0 : (Lit.int .u32 a0).wf = true) (w1 : (Lit.int .u32 a1).wf = true) (w2 : (Lit.int .u32 a2).wf = true) (w : World) :
    Calls Try.prog 7 #[.int .u32 a0, .int .u32 a1, .int .u32 a2, .bool a3] w fun e w' => e = .returned (.bool true) ∧ Below w.heap.size w w' := by
  have b0 := bounds_u32 w0
  have b1 := bounds_u32 w1
  have b2 := bounds_u32 w2
  clear w0 w1 w2
  by_cases hl : 262143 < a1
  · go_enter Try.func7, Try.ntmps7
    go_wp2
    go_ret
    exact ⟨rfl, Below.refl _ _⟩
  by_cases hc : 16383 < a2
  · go_enter Try.func7, Try.ntmps7
    go_wp2
    go_ret
    exact ⟨rfl, Below.refl _ _⟩
  by_cases ho : a0 ≤ 4294967284
  · rcases Bool.eq_false_or_eq_true (a1 == 0) with z1 | z1
    · rcases Bool.eq_false_or_eq_true (a2 == 0) with z2 | z2
      · obtain rfl : a1 = 0 := by simpa using z1
        obtain rfl : a2 = 0 := by simpa using z2
        exact bad_case a0 a3 w b0.1 (.inl ho)
      · exact ok_case a0 a1 a2 (addO a0 (kOf a3)) (if 0 < a2 ∧ a2 + kOf a3 ≤ 16383 then a2 + kOf a3 else 0) a3 w b0.1 ho b1.1 (by omega) b2.1 (by omega) (.inr ⟨z1, z2⟩) (by unfold addO; split <;> omega) (by split <;> omega)
    · exact ok_case a0 a1 a2 (addO a0 (kOf a3)) (if 0 < a2 ∧ a2 + kOf a3 ≤ 16383 then a2 + kOf a3 else 0) a3 w b0.1 ho b1.1 (by omega) b2.1 (by omega) (.inl z1) (by unfold addO; split <;> omega) (by split <;> omega)
  · rcases Bool.eq_false_or_eq_true (a0 == 4294967285) with z0 | z0
    · rcases Bool.eq_false_or_eq_true (a1 == 0) with z1 | z1
      · rcases Bool.eq_false_or_eq_true (a2 == 0) with z2 | z2
        · obtain rfl : a0 = 4294967285 := by simpa using z0
          obtain rfl : a1 = 0 := by simpa using z1
          obtain rfl : a2 = 0 := by simpa using z2
          exact bad_case _ a3 w (by omega) (.inr rfl)
        · go_enter Try.func7, Try.ntmps7
          go_wp2
          go_ret
          exact ⟨rfl, Below.refl _ _⟩
      · go_enter Try.func7, Try.ntmps7
        go_wp2
        go_ret
        exact ⟨rfl, Below.refl _ _⟩
    · go_enter Try.func7, Try.ntmps7
      go_wp2
      go_ret
      exact ⟨rfl, Below.refl _ _⟩

/-! ### THE ROW's STEP: WRITTEN OUT: LEAVE IT -/
set_option maxRecDepth 100000 in
theorem lifted (os : Os) (started : os.Started) (H : Type) (enc : TypeId × Value → H) :
    ReturnsInHanded {} Try.checked os 7 .any (Rows.fnForClauseEndExactSpec.pre6 enc Try.prog Try.f7 Rows.fnForClauseEndExactRow.domain false) (Rows.fnForClauseEndExactSpec.post enc Try.prog Try.f7 false true false false) := by
  refine returnsInHanded_of_change (C := Try.checked) own started (by kernel_rfl) Try.func7
    (ChangeSpec.witness6 (enc := enc) (C := Try.checked) false ⟨#[], #[.int .u32 0, .int .u32 0, .int .u32 0, .bool false], []⟩ 8 (by kernel_rfl) (by kernel_rfl) (by kernel_rfl) (by kernel_rfl)) ?_
  intro W base args ds gs before hval0 hW hcnd _
  have hval : ∀ (j : Nat) t v, Try.f7.params[j]? = some t → args[j]? = some v → Value.okWide Try.prog W .any base t v := hval0
  have hW' := hW
  obtain ⟨p, q, hA0, hV, rfl, hfz, hnd⟩ := hW
  have hA : DataW.TrodAll enc Try.prog W 0 (fun _ => true) true Try.f7.params.toList args.toList ds p := hA0
  rw [Try.params7] at hA hval
  obtain ⟨v0, vs0, d0, ds0, p0, q0, hargs, rfl, rfl, h0, r0⟩ := trodAll_cons hA
  obtain ⟨v1, vs1, d1, ds1, p1, q1, rfl, rfl, rfl, h1, r1⟩ := trodAll_cons r0
  obtain ⟨v2, vs2, d2, ds2, p2, q2, rfl, rfl, rfl, h2, r2⟩ := trodAll_cons r1
  obtain ⟨v3, vs3, d3, ds3, p3, q3, rfl, rfl, rfl, h3, r3⟩ := trodAll_cons r2
  obtain ⟨rfl, rfl, rfl⟩ := trodAll_nil r3
  obtain rfl : args = #[v0, v1, v2, v3] := by cases args; simp_all
  obtain ⟨rfl, rfl⟩ := trodVars_none hV
  obtain ⟨a0, rfl, rfl, rfl, w0⟩ := open_int Try.underlying31 (hval 0 31 v0 rfl rfl) h0
  obtain ⟨a1, rfl, rfl, rfl, w1⟩ := open_int Try.underlying31 (hval 1 31 v1 rfl rfl) h1
  obtain ⟨a2, rfl, rfl, rfl, w2⟩ := open_int Try.underlying31 (hval 2 31 v2 rfl rfl) h2
  obtain ⟨a3, rfl, rfl, rfl⟩ := open_bool Try.underlying4 (hval 3 4 v3 rfl rfl) h3
  clear hA0 hval0
  simp only [List.append_nil] at hW'
  refine (walk a0 a1 a2 a3 w0 w1 w2 W).mono fun e W' ⟨he, bel⟩ => ?_
  subst he
  exact ⟨_, rfl, _, _, _, [], [], [], hW', (trodAll_cons_mk (shut_bool Try.underlying4 _) trodAll_mk0), (trodAll_cons_mk (shut_int Try.underlying31 w0) (trodAll_cons_mk (shut_int Try.underlying31 w1) (trodAll_cons_mk (shut_int Try.underlying31 w2) (trodAll_cons_mk (shut_bool Try.underlying4 _) trodAll_mk0)))), rfl, bel.frame _, fun h => by cases h⟩

theorem over : Rows.fnForClauseEndExactRow.holds Try.pinned (OpenSpec.ofChange Rows.fnForClauseEndExactSpec) :=
  OpenClaim.holds_of_wide 7 Try.f7 rfl rfl rfl rfl rfl rfl rfl ⟨rfl, rfl, rfl, rfl, rfl⟩ rfl rfl rfl rfl rfl (by kernel_rfl) Try.func7 (by kernel_rfl)
    (of_decide_eq_true (by kernel_rfl)) (by unfold Func.isWrapper; first | (rw [if_pos (by decide +kernel)]; kernel_rfl) | (rw [if_neg (by decide +kernel)]; exact ⟨rfl, rfl⟩))
    (fun os started H enc _ => lifted os started H enc)

/-- ████ THE STATEMENT ████ -/
theorem proved : Rows.FnForClauseEndExactSaid :=
  over
#print axioms proved
end Go.Proofs.Ythfjbbeecoeenaa.fnForClauseEndExact
