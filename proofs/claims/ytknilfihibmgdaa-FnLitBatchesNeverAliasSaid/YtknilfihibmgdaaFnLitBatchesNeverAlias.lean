/- Proved here: the Lits that lit makes over a list of values lie apart: each still holds its own value and start position, and all end at the same position (FnLitBatchesNeverAlias returns true). No conditions. -/
import Derived.Test.YtknilfihibmgdaaRows
import Derived.WalkKit
import Derived.Test.YtknilfihibmgdaaLitB
import Derived.Laws.OwnMore
import Derived.Deep.RegionHeld3
import Derived.ProofKit
import Derived.OpenShut
import Derived.SliceStrings
import Derived.ShutString
import Derived.ChangeOld
import Derived.Below
namespace Go.Proofs.Ytknilfihibmgdaa.fnLitBatchesNeverAlias
open Go.ChangeShapes Go.WideShapes Go.ChangeAt Go.RowKit
open Go.ChangeMaps (open_string shut_string)
set_option linter.unusedVariables false

theorem own : ownKnob Try.prog.godebug = none := by kernel_rfl
theorem laidOut : laidOutB Try.prog = true := by kernel_rfl

/-- WHAT THE WALK IS TOLD OF A SLICE OF INTEGERS THAT CAME IN: it is nil; or it leads to a row of 'cap' cells, the numbers 'zs' (the first 'len' are its elements, the rest its spare room), each fitting its kind. -/
def IsRow (k : IntKind) (w : World) (a : Option Addr) (len cap : Nat) (zs : List Int) : Prop :=
  (a = none ∧ len = 0 ∧ cap = 0 ∧ zs = []) ∨
  ∃ x, a = some x ∧ len ≤ cap ∧ cap ≤ maxLen ∧ zs.length = cap ∧ (∀ i, i < zs.length → w.cell? (x.add i) = some (.int k (zs.getD i 0))) ∧ ∀ n ∈ zs, (Lit.int k n).wf = true

/-- WHAT THE WALK IS TOLD OF A SLICE OF STRINGS THAT CAME IN. -/
def IsStrs (w : World) (a : Option Addr) (len cap : Nat) (zs : List ByteArray) : Prop :=
  (a = none ∧ len = 0 ∧ cap = 0 ∧ zs = []) ∨
  ∃ x, a = some x ∧ len ≤ cap ∧ cap ≤ maxLen ∧ zs.length = cap ∧ (∀ i, i < zs.length → w.cell? (x.add i) = some (.string (zs.getD i ByteArray.empty))) ∧ ∀ s ∈ zs, s.size ≤ maxLen

/-! ### STEP 1: THE WALK: the Go text returns true, AND WRITES NOTHING THAT WAS THERE: 'Below w.heap.size w w'' (Derived/Below.lean: '.refl', '.alloc', '.drew', '.setCell' at a new block, '.trans'). Open each 'IsRow' by 'rcases' AHEAD of 'go_enter'; part every test ahead of the walk. -/
open LB
def Small (n : Nat) (f : Nat → ByteArray) : Prop := n ≤ 1048576 ∧ ∀ i, i < n → (f i).size ≤ 1048576
def Way (n : Nat) (f : Nat → ByteArray) (vz vi : Value) : Prop := ∃ k z : Nat, k ≤ n ∧ z ≤ 1048576 ∧ vi = .int .i64 k ∧ vz = .int .i64 z ∧ ∀ i, i < k → (f i).size ≤ 1048576
set_option maxHeartbeats 2000000 in
theorem bytes_any (a : Option Addr) (n c : Nat) (f : Nat → ByteArray) (w : World) (h : SRow w a n f) (hs : ∀ i, i < n → (f i).size ≤ 9223372036854775807) (hn : n ≤ 9223372036854775807) :
    Calls Try.prog 45 #[.slice a n c] w (AnyBool (Small n f) w) := by
  have H := Lib.hid h
  have HS := Lib.hid hs
  clear h hs
  by_cases h0 : 1048576 < n
  · go_enter Try.func45, Try.ntmps45
    go_wp2
    go_ret
    exact ⟨false, rfl, (fun h => by cases h), rfl⟩
  go_enter Try.func45, Try.ntmps45
  go_wp2
  go_loop [3, 4] (fun vz vi => Way n f vz vi) (fun _ vi => n - (intOf vi).toNat)
  case atStart => exact ⟨0, n, Nat.zero_le _, by omega, rfl, rfl, fun i h => by omega⟩
  case round =>
    obtain ⟨k, z, hk, hz, rfl, rfl, hall⟩ := hrel
    have HA := Lib.hid hall
    clear hall
    by_cases hlt : k < n
    · obtain ⟨x, rfl, hc⟩ := H.out k hlt
      have hsz := HS.out k hlt
      have i0 : (0 : Int) ≤ (k : Int) := by omega
      have i1 : (k : Int) < (n : Int) := by omega
      by_cases hbig : 1048576 < (f k).size
      · go_wp2
        go_ret
        exact ⟨false, rfl, (fun h => by cases h), rfl⟩
      by_cases hsum : 1048576 < z + (f k).size
      · go_wp2
        go_ret
        exact ⟨false, rfl, (fun h => by cases h), rfl⟩
      · go_wp2
        go_round
        case rel =>
          refine ⟨k + 1, z + (f k).size, by omega, by omega, by go_num, by go_num, fun i hi => ?_⟩
          rcases Nat.lt_or_ge i k with h | h
          · exact HA.out i h
          · have : i = k := by omega
            rw [this]; omega
        case measure => simp [intOf]; omega
    · have hkn : k = n := by omega
      subst hkn
      go_wp2
      go_ret
      exact ⟨true, rfl, (fun _ => ⟨by omega, HA.out⟩), rfl⟩
def Way2 (n : Nat) (vz vi : Value) : Prop := ∃ k z : Nat, k ≤ n ∧ z ≤ 1048576 ∧ vi = .int .i64 k ∧ vz = .int .i64 z
theorem infoPtr : (Try.prog.info? 82).map (fun i => (i.zero, i.size, i.bytes)) = some (some (.pointer none), 1, 8) := by kernel_rfl
theorem make_ptrs (n : Nat) (hn : n ≤ 4096) (w : World) : (Instr.makeSlice 81 (.int .i64 n) (.int .i64 n)).run Try.prog w = .ok (.slice (some ⟨w.heap.size, 0, none⟩) n n) (w.alloc (.cells (madeCells #[.pointer none] n) 82)) := by
  obtain ⟨i, hi, hz0, hz1, hz2⟩ := info_parts infoPtr
  have hr := run_make (P := Try.prog) w 81 82 i (.pointer none) Try.underlying81 hi hz0 .i64 .i64 n n (by omega) (by omega) (by rw [hz2]; omega) (by omega)
  simp only [Int.toNat_natCast, hz1, Nat.mul_one] at hr
  exact hr
/-- the relation of the second loop, and of the third -/
def Fill (w : World) (b L n : Nat) (f : Nat → ByteArray) (vi : Value) (wr : World) : Prop := ∃ k : Nat, k ≤ n ∧ vi = .int .i64 k ∧ Inv w b L n k f wr
/-- all is made; the end's position lies in block q -/
def Done (w : World) (b L n q : Nat) (f : Nat → ByteArray) (W : World) : Prop := Inv w b L n n f W ∧ W.cell? ⟨q, 0, none⟩ = some (.int .u32 0) ∧ W.cell? ⟨q, 1, none⟩ = some (.int .u32 16385)
theorem Done.below {w : World} {b L n q : Nat} {f : Nat → ByteArray} {W W' : World} (h : Done w b L n q f W) (hb : Below W.heap.size W W') : Done w b L n q f W' := ⟨h.1.below hb, cell_later hb h.2.1, cell_later hb h.2.2⟩
theorem Done.alloc {w : World} {b L n q : Nat} {f : Nat → ByteArray} {W : World} (h : Done w b L n q f W) (x : Obj) : Done w b L n q f (W.alloc x) := h.below ((Below.refl _ _).alloc (Nat.le_refl _) x)
theorem Done.drew {w : World} {b L n q : Nat} {f : Nat → ByteArray} {W : World} (h : Done w b L n q f W) : Done w b L n q f W.drew := h.below (Below.refl _ _).drew
def Look (w : World) (b L n q : Nat) (f : Nat → ByteArray) (vi : Value) (wr : World) : Prop := ∃ k : Nat, k ≤ n ∧ vi = .int .i64 k ∧ Done w b L n q f wr
theorem newPos_i (k : Nat) (w : World) (hk : k ≤ 4096) : Calls Try.prog 48 #[.int .u64 k, .int .u64 1, .int .u64 1] w fun e w' => e = .returned (posV k 16385) ∧ w.alloc (posC k 16385) = w' := by
  have := newPos_any k 1 1 w (by omega) (by omega) (by omega)
  rwa [clampO_le (by omega), show packLC 1 1 = 16385 from by decide] at this
theorem keepS {w W : World} {x : Addr} {b L n k : Nat} {f : Nat → ByteArray} (hc : w.cell? (x.add k) = some (.string (f k))) (hk : k < n) (h : Inv w b L n k f W) :
    W.cell? (x.add k) = some (.string (f k)) ∧ W.frozen? ⟨L, k, none⟩ = false ∧ Inv w b L n k f W :=
  ⟨(h.bel.cell (p := x.add k) (World.block_lt_of_cell? w _ hc)).trans hc, (h.row hk).2, h⟩
set_option maxRecDepth 100000 in
set_option maxHeartbeats 8000000 in
theorem go_on (a : Option Addr) (n c : Nat) (f : Nat → ByteArray) (w : World) (hS : SRow w a n f) (hs : ∀ i, i < n → (f i).size ≤ 9223372036854775807) (hn : n ≤ 4096) :
    Calls Try.prog 10 #[.slice a n c] w fun e w' => e = .returned (.bool true) ∧ Below w.heap.size w w' := by
  have hmk := make_ptrs n hn
  have HS := Lib.hid hS
  have HZ := Lib.hid hs
  clear hS hs
  go_enter Try.func10, Try.ntmps10
  go_wp2_with (first
    | (go_at_call 45; refine (bytes_any _ _ _ f _ HS.out HZ.out (by omega)).mono ?_; rintro e w' ⟨x, rfl, hx, rfl⟩; have HX := Lib.hid hx; clear hx; cases x))
  · go_ret
    exact ⟨rfl, Below.refl _ _⟩
  go_loop [3, 4] (fun vz vi => Way2 n vz vi) (fun _ vi => n - (intOf vi).toNat)
  case atStart => exact ⟨0, 8 * n, Nat.zero_le _, by omega, rfl, by go_num⟩
  case round =>
    obtain ⟨k, z, hk, hz, rfl, rfl⟩ := hrel
    by_cases hlt : k < n
    · obtain ⟨x, rfl, hc⟩ := HS.out k hlt
      have hsz := (HX.out rfl).2 k hlt
      have i0 : (0 : Int) ≤ (k : Int) := by omega
      have i1 : (k : Int) < (n : Int) := by omega
      by_cases hsum : 1048576 < z + (f k).size
      · go_wp2
        go_ret
        exact ⟨rfl, Below.refl _ _⟩
      · go_wp2
        go_round
        case rel => exact ⟨k + 1, z + (f k).size, by omega, by omega, by go_num, by go_num⟩
        case measure => simp [intOf]; omega
    · have hkn : ¬ (k : Int) < (n : Int) := by omega
      go_upto_region 14 with (first
        | (go_at_call 46; refine (newPP_any _).mono ?_; rintro e w1 ⟨rfl, hp, hb1, hz1⟩
           have HP := Lib.hid hp; have HB1 := Lib.hid hb1; have HZ1 := Lib.hid hz1; clear hp hb1 hz1))
      have hI : Inv w w.heap.size w1.heap.size n 0 f (w1.alloc (.cells (madeCells #[.pointer none] n) 82)) := by
        refine ⟨0, none, madeCells #[.pointer none] n, ⟨HP.out.alloc _, fun h => by omega⟩, heap_alloc_new w1 _, size_madeCells _ _, by have := HZ1.out; omega, HB1.out.alloc HB1.out.size _, Nat.le_refl _, HB1.out.size, (fun g o h => by cases h), fun i hi => by omega⟩
      have HI := Lib.hid hI
      clear hI HP HB1 HZ1 hmk
      generalize (w1.alloc (.cells (madeCells #[.pointer none] n) 82)) = W1 at *
      generalize w1.heap.size = L at *
      generalize decide (4096 < (n : Int)) = bz at *
      go_wp2
      go_loopw [7] (fun vi wr => Fill w w.heap.size L n f vi wr) (fun vi _ => n - (intOf vi).toNat)
      case atStart => exact ⟨0, Nat.zero_le _, rfl, HI.out⟩
      case round =>
        obtain ⟨k2, hk2, rfl, hinv⟩ := hrel
        have HV := Lib.hid hinv
        clear hinv HI
        by_cases hlt2 : k2 < n
        · obtain ⟨x, rfl, hc⟩ := HS.out k2 hlt2
          have hcv : wr.cell? (x.add k2) = some (.string (f k2)) := (HV.out.bel.cell (p := x.add k2) (World.block_lt_of_cell? w _ hc)).trans hc
          have hxb : (x.add k2).block < w.heap.size := World.block_lt_of_cell? w _ hc
          have hfz := (HV.out.row hlt2).2
          have i0 : (0 : Int) ≤ (k2 : Int) := by omega
          have i1 : (k2 : Int) < (n : Int) := by omega
          have hwk : IntKind.u64.wrap (k2 : Int) = k2 := IntWalk.u64_in _ ⟨by omega, by omega⟩
          have HCW := Lib.hid hc
          have HVI := HV.out
          clear hc
          go_upto_region 17 with fail
          go_region_held3 (fun W => W.cell? (x.add k2) = some (.string (f k2)) ∧ W.frozen? ⟨L, k2, none⟩ = false ∧ Inv w w.heap.size L n k2 f W)
            (first
              | exact ⟨hcv, hfz, HVI.drew⟩
              | (go_split_ands; exact keepS HCW.out hlt2 (Inv.alloc ‹_› _))
              | (go_split_ands; exact keepS HCW.out hlt2 (Inv.drew (Inv.alloc ‹_› _)))
              | (exact keepS HCW.out hlt2 (Pend.inv ‹_›))
              | (exact keepS HCW.out hlt2 (Inv.scratch (Pend.inv ‹_›) _)))
            (first
              | (go_at_call 48; refine (newPos_i k2 _ (by omega)).mono ?_; rintro e w' ⟨rfl, rfl⟩)
              | (go_at_call 47; go_split_ands; refine (zlit_inv w w.heap.size L n k2 f _ ‹_›).mono ?_; rintro e w' ⟨g, o, rfl, hpend⟩; obtain ⟨⟨v0, hv0⟩, -⟩ := hpend.inv.row hlt2))
          go_wp2
          go_roundw
          case rel => exact ⟨k2 + 1, by omega, by go_num, hpend.store hlt2⟩
          case measure => simp [intOf]; omega
        · have hkn2 : ¬ (k2 : Int) < (n : Int) := by omega
          obtain rfl : k2 = n := by omega
          obtain ⟨v, hps⟩ := HV.out.ps
          have HPS := Lib.hid hps
          clear hps
          go_upto_region 19 with (first
            | (go_at_call 49; refine (znext_any _ v _ HPS.out).mono ?_; rintro e w2 ⟨rfl, hb2⟩
               have HD : Hid (Done w w.heap.size L k2 w2.heap.size f (w2.alloc (.cells #[.int .u32 0, .int .u32 16385] 26))) := ⟨(HV.out.below hb2).alloc _, by go_simp, by go_simp⟩
               clear hb2))
          clear HV HPS
          generalize (w2.alloc (.cells #[.int .u32 0, .int .u32 16385] 26)) = W2 at *
          generalize w2.heap.size = q at *
          go_wp2
          go_loopw [9] (fun vi wr => Look w w.heap.size L k2 q f vi wr) (fun vi _ => k2 - (intOf vi).toNat)
          case atStart => exact ⟨0, Nat.zero_le _, rfl, HD.out⟩
          case round =>
            obtain ⟨k3, hk3, rfl, hdone⟩ := hrel
            have HV := Lib.hid hdone
            clear hdone HD
            by_cases hlt3 : k3 < k2
            · obtain ⟨x, rfl, hc⟩ := HS.out k3 hlt3
              obtain ⟨g, o, hp, l0, l1, l2, l3, l4⟩ := HV.out.1.lit hlt3
              have hcv : wr.cell? (x.add k3) = some (.string (f k3)) := (HV.out.1.bel.cell (p := x.add k3) (World.block_lt_of_cell? w _ hc)).trans hc
              obtain ⟨-, e0, e1⟩ := HV.out
              have i0 : (0 : Int) ≤ (k3 : Int) := by omega
              have i1 : (k3 : Int) < (k2 : Int) := by omega
              have hwk : IntKind.u64.wrap (k3 : Int) = k3 := IntWalk.u64_in _ ⟨by omega, by omega⟩
              have l3' : wr.cell? ⟨g, o + 2 + 1, none⟩ = some (.int .u32 16385) := l3
              have HVI := HV.out
              clear hc
              go_upto_region 25 with fail
              go_region_held3 (fun W => W.cell? (x.add k3) = some (.string (f k3)) ∧ W.cell? ⟨g, o, none⟩ = some (.int .u32 k3) ∧ W.cell? ⟨g, o + 1, none⟩ = some (.int .u32 16385) ∧ W.cell? ⟨g, o + 2, none⟩ = some (.int .u32 0) ∧ W.cell? ⟨g, o + 2 + 1, none⟩ = some (.int .u32 16385) ∧ W.cell? ⟨g, o + 4, none⟩ = some (.string (f k3)) ∧ W.cell? ⟨q, 0, none⟩ = some (.int .u32 0) ∧ W.cell? ⟨q, 1, none⟩ = some (.int .u32 16385) ∧ Done w w.heap.size L k2 q f W)
                (first
                  | exact ⟨hcv, l0, l1, l2, l3', l4, e0, e1, HVI.drew⟩
                  | (go_split_ands; exact ⟨kb ‹_›, kb ‹_›, kb ‹_›, kb ‹_›, kb ‹_›, kb ‹_›, kb ‹_›, kb ‹_›, Done.alloc ‹_› _⟩)
                  | (go_split_ands; exact ⟨kd (kb ‹_›), kd (kb ‹_›), kd (kb ‹_›), kd (kb ‹_›), kd (kb ‹_›), kd (kb ‹_›), kd (kb ‹_›), kd (kb ‹_›), (Done.alloc ‹_› _).drew⟩))
                (first
                  | (go_at_call 48; refine (newPos_i k3 _ (by omega)).mono ?_; rintro e w' ⟨rfl, rfl⟩))
              all_goals
                go_wp2
                go_roundw
                case rel => exact ⟨k3 + 1, by omega, by go_num, by go_split_ands; assumption⟩
                case measure => simp [intOf]; omega
            · have hkn3 : ¬ (k3 : Int) < (k2 : Int) := by omega
              go_wp2
              go_ret
              exact ⟨rfl, HV.out.1.bel⟩
theorem strs_row {w : World} {a : Option Addr} {n c : Nat} {z : List ByteArray} (h : IsStrs w a n c z) :
    SRow w a n (fun i => z.getD i ByteArray.empty) ∧ (a = none → n = 0 ∧ c = 0) ∧ (∀ i, i < n → (z.getD i ByteArray.empty).size ≤ 9223372036854775807) ∧ n ≤ 9223372036854775807 := by
  rcases h with ⟨rfl, rfl, rfl, rfl⟩ | ⟨x, rfl, hl, hm, hz, hcell, hsz⟩
  · exact ⟨fun i h => by omega, fun _ => ⟨rfl, rfl⟩, fun i h => by omega, by omega⟩
  · unfold maxLen at hm hsz
    refine ⟨fun i h => ⟨x, rfl, hcell i (by omega)⟩, (fun h => by cases h), fun i h => ?_, by omega⟩
    rw [List.getD_eq_getElem?_getD, List.getElem?_eq_getElem (by omega)]
    exact hsz _ (List.getElem_mem _)
set_option maxHeartbeats 1000000 in
theorem walk (a0 : Option Addr) (len0 cap0 : Nat) (z0 : List ByteArray) (w : World) (w0 : IsStrs w a0 len0 cap0 z0) :
    Calls Try.prog 10 #[.slice a0 len0 cap0] w fun e w' => e = .returned (.bool true) ∧ Below w.heap.size w w' := by
  obtain ⟨hS, h0, hs, hn⟩ := strs_row w0
  by_cases hbig : 4096 < len0
  · have HS := Lib.hid hS
    have HZ := Lib.hid hs
    clear w0 hS hs h0
    have h1 : (4096 : Int) < len0 := by omega
    go_enter Try.func10, Try.ntmps10
    go_wp2_with (first
      | (go_at_call 45; refine (bytes_any _ _ _ _ _ HS.out HZ.out hn).mono ?_; rintro e w' ⟨x, rfl, hx, rfl⟩; clear hx; cases x))
    all_goals
      go_ret
      exact ⟨rfl, Below.refl _ _⟩
  exact go_on a0 len0 cap0 _ w hS hs (by omega)

/-! ### THE ROW's STEP: WRITTEN OUT: LEAVE IT -/
set_option maxRecDepth 100000 in
theorem lifted (os : Os) (started : os.Started) (H : Type) (enc : TypeId × Value → H) :
    ReturnsInHanded {} Try.checked os 10 .any (Rows.fnLitBatchesNeverAliasSpec.pre6 enc Try.prog Try.f10 Rows.fnLitBatchesNeverAliasRow.domain false) (Rows.fnLitBatchesNeverAliasSpec.post enc Try.prog Try.f10 false true false false) := by
  refine returnsInHanded_of_change (C := Try.checked) own started (by kernel_rfl) Try.func10
    (ChangeSpec.witness6 (enc := enc) (C := Try.checked) false ⟨#[], #[.slice none 0 0], []⟩ 8 (by kernel_rfl) (by kernel_rfl) (by kernel_rfl) (by kernel_rfl)) ?_
  intro W base args ds gs before hval0 hW hcnd _
  have hval : ∀ (j : Nat) t v, Try.f10.params[j]? = some t → args[j]? = some v → Value.okWide Try.prog W .any base t v := hval0
  have hW' := hW
  obtain ⟨p, q, hA0, hV, rfl, hfz, hnd⟩ := hW
  have hA : DataW.TrodAll enc Try.prog W 0 (fun _ => true) true Try.f10.params.toList args.toList ds p := hA0
  rw [Try.params10] at hA hval
  obtain ⟨v0, vs0, d0, ds0, p0, q0, hargs, rfl, rfl, h0, r0⟩ := trodAll_cons hA
  obtain ⟨rfl, rfl, rfl⟩ := trodAll_nil r0
  obtain rfl : args = #[v0] := by cases args; simp_all
  obtain ⟨rfl, rfl⟩ := trodVars_none hV
  obtain ⟨a0, len0, cap0, rfl⟩ := okWide_slice Try.underlying43 (hval 0 43 v0 rfl rfl)
  have k0 := h0
  have lt0 : ∀ x ∈ p0, x.block < W.heap.size := by obtain ⟨m, hm⟩ := k0; exact DataW.trod_lt m _ _ _ hm
  obtain ⟨z0, w0⟩ : ∃ zs, IsStrs W a0 len0 cap0 zs := by
    obtain ⟨fuel, hf⟩ := h0
    rcases open_strings Try.underlying43 Try.underlying9 (by kernel_rfl) hf with ⟨hcs, _⟩ | ⟨x, l, c, zs, hcs, _, hl, hm, hz, _, hcell, hwz⟩
    · simp [Value.cells] at hcs
      obtain ⟨rfl, rfl, rfl⟩ := hcs
      exact ⟨[], .inl ⟨rfl, rfl, rfl, rfl⟩⟩
    · simp [Value.cells] at hcs
      obtain ⟨rfl, rfl, rfl⟩ := hcs
      exact ⟨zs, .inr ⟨_, rfl, hl, hm, by simpa using hz, hcell, hwz⟩⟩
  clear hA0 hval0
  refine (walk a0 len0 cap0 z0 W w0).mono fun e W' ⟨he, bel⟩ => ?_
  subst he
  exact ⟨_, rfl, _, _, _, [], _, [], hW', trodAll_mk1 (shut_bool Try.underlying4 _), (trodAll_cons_mk (Below.trod laidOut (by kernel_rfl) (of_decide_eq_true (by kernel_rfl)) k0 bel lt0) trodAll_mk0), rfl, bel.frame _, fun h => by cases h⟩

theorem over : Rows.fnLitBatchesNeverAliasRow.holds Try.pinned (OpenSpec.ofChange Rows.fnLitBatchesNeverAliasSpec) :=
  OpenClaim.holds_of_wide 10 Try.f10 rfl rfl rfl rfl rfl rfl rfl ⟨rfl, rfl, rfl, rfl, rfl⟩ rfl rfl rfl rfl rfl (by kernel_rfl) Try.func10 (by kernel_rfl)
    (of_decide_eq_true (by kernel_rfl)) (by unfold Func.isWrapper; first | (rw [if_pos (by decide +kernel)]; kernel_rfl) | (rw [if_neg (by decide +kernel)]; exact ⟨rfl, rfl⟩))
    (fun os started H enc _ => lifted os started H enc)

/-- ████ THE STATEMENT ████ -/
theorem proved : Rows.FnLitBatchesNeverAliasSaid := over
#print axioms proved
end Go.Proofs.Ytknilfihibmgdaa.fnLitBatchesNeverAlias
