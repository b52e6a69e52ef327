/- Proved here: the keys of indexedKeys of a dense array, or of a sparse one with non-negative, strictly increasing Indexes as long as List, are in strictly ascending numeric order (FnIndexedKeysAscending returns true), with the tables that the library reads as the program's text lays them (the tied card). No other conditions. -/
import Derived.Test.YtijilflnfdgdnaaDoorRows
import Derived.WalkKit
import Derived.Test.YtijilflnfdgdnaaDoorCards
import Derived.Test.YtijilflnfdgdnaaDoorTie
import Derived.LaidMore
import Derived.Stop.Joined
import Derived.Lib.Hide
import Derived.Test.YtijilflnfdgdnaaDoorKeys
import Derived.Deep.DeepCutAuto
import Derived.Stop.LaidErr
import Derived.ProofKit
import Derived.OpenShut
import Derived.SliceStrings
import Derived.ShutString
import Derived.ChangeOld
import Derived.Below
namespace Go.Proofs.YtijilflnfdgdnaaDoor.fnIndexedKeysAscending
open Go.ChangeShapes Go.WideShapes Go.ChangeAt Go.RowKit
open Go.ChangeMaps (open_string shut_string)
set_option linter.unusedVariables false

theorem own : ownKnob Tryd.prog.godebug = none := by kernel_rfl
theorem laidOut : laidOutB Tryd.prog = true := by kernel_rfl

/-- WHAT THE WALK IS TOLD OF A SLICE OF INTEGERS THAT CAME IN: it is nil; or it leads to a row of 'cap' cells, the numbers 'zs' (the first 'len' are its elements, the rest its spare room), each fitting its kind. -/
def IsRow (k : IntKind) (w : World) (a : Option Addr) (len cap : Nat) (zs : List Int) : Prop :=
  (a = none ∧ len = 0 ∧ cap = 0 ∧ zs = []) ∨
  ∃ x, a = some x ∧ len ≤ cap ∧ cap ≤ maxLen ∧ zs.length = cap ∧ (∀ i, i < zs.length → w.cell? (x.add i) = some (.int k (zs.getD i 0))) ∧ ∀ n ∈ zs, (Lit.int k n).wf = true

/-- WHAT THE WALK IS TOLD OF A SLICE OF STRINGS THAT CAME IN. -/
def IsStrs (w : World) (a : Option Addr) (len cap : Nat) (zs : List ByteArray) : Prop :=
  (a = none ∧ len = 0 ∧ cap = 0 ∧ zs = []) ∨
  ∃ x, a = some x ∧ len ≤ cap ∧ cap ≤ maxLen ∧ zs.length = cap ∧ (∀ i, i < zs.length → w.cell? (x.add i) = some (.string (zs.getD i ByteArray.empty))) ∧ ∀ s ∈ zs, s.size ≤ maxLen

/-! ### STEP 1: THE WALK: the Go text returns true, AND WRITES NOTHING THAT WAS THERE: 'Below w.heap.size w w'' (Derived/Below.lean: '.refl', '.alloc', '.drew', '.setCell' at a new block, '.trans'). Open each 'IsRow' by 'rcases' AHEAD of 'go_enter'; part every test ahead of the walk. -/
theorem strs_row {w : World} {a : Option Addr} {n c : Nat} {z : List ByteArray} (h : IsStrs w a n c z) :
    SRow w a n (fun i => z.getD i ByteArray.empty) ∧ (a = none → n = 0 ∧ c = 0) ∧ (∀ i, i < n → (z.getD i ByteArray.empty).size ≤ 9223372036854775807) ∧ n ≤ 9223372036854775807 := by
  rcases h with ⟨rfl, rfl, rfl, rfl⟩ | ⟨x, rfl, hl, hm, hz, hcell, hs⟩
  · exact ⟨fun i hi => absurd hi (Nat.not_lt_zero i), fun _ => ⟨rfl, rfl⟩, fun i hi => absurd hi (Nat.not_lt_zero i), by omega⟩
  · unfold maxLen at hm
    refine ⟨fun i hi => ⟨x, rfl, hcell i (by omega)⟩, (fun h => by cases h), fun i hi => ?_, by omega⟩
    have h1 : i < z.length := by omega
    have := hs (z.getD i ByteArray.empty) (by rw [List.getD_eq_getElem?_getD, List.getElem?_eq_getElem h1]; exact List.getElem_mem h1)
    unfold maxLen at this
    exact this
theorem ints_row {k : IntKind} {w : World} {a : Option Addr} {n c : Nat} {z : List Int} (h : IsRow k w a n c z) :
    IRow k w a n (fun i => z.getD i 0) ∧ (a = none → n = 0 ∧ c = 0) ∧ (∀ i, i < n → (Lit.int k (z.getD i 0)).wf = true) ∧ n ≤ 9223372036854775807 := by
  rcases h with ⟨rfl, rfl, rfl, rfl⟩ | ⟨x, rfl, hl, hm, hz, hcell, hs⟩
  · exact ⟨fun i hi => absurd hi (Nat.not_lt_zero i), fun _ => ⟨rfl, rfl⟩, fun i hi => absurd hi (Nat.not_lt_zero i), by omega⟩
  · unfold maxLen at hm
    refine ⟨fun i hi => ⟨x, rfl, hcell i (by omega)⟩, (fun h => by cases h), fun i hi => ?_, by omega⟩
    have h1 : i < z.length := by omega
    exact hs (z.getD i 0) (by rw [List.getD_eq_getElem?_getD, List.getElem?_eq_getElem h1]; exact List.getElem_mem h1)
theorem quiet_add_left {P : Program} {f : FuncId} {args : Array Value} {w : World} {a n : Nat} {v : Value}
    (h : Calls P f args (w.drewN (a + n)) fun e w' => e = .returned v ∧ w.drewN (a + n) = w') :
    Calls P f args (w.drewN (a + n)) fun e w'' => e = .returned v ∧ ∃ m, w'' = w.drewN (a + m) :=
  h.mono fun _ _ ⟨he, hm⟩ => ⟨he, n, hm.symm⟩
set_option maxHeartbeats 1000000 in
theorem zkeys_dense (A : Option Addr) (n c : Nat) (w : World) (hT : TabOk w) (hn : n ≤ 1048576) :
    Calls Tryd.prog 11 #[varV (.slice A n c) (.slice none 0 0)] w (KeysV n (fun i => (i : Int)) w) := by
  have HT := Lib.hid hT
  clear hT
  go_enter Tryd.func11, Tryd.ntmps11
  go_wp2_with (go_at_call 13; refine (keys_dense A n c _ (HT.out.later ((Below.refl _ _).alloc (Nat.le_refl _) _)) hn).mono ?_; rintro e w1 ⟨B, rfl, hc, hb⟩; have HC := Lib.hid hc; have HB := Lib.hid hb; clear hc hb)
  go_ret
  exact ⟨B, rfl, HC.out, ((Below.refl _ _).alloc (Nat.le_refl _) _).trans (HB.out.mono (by simp))⟩
set_option maxHeartbeats 1000000 in
theorem zkeys_sparse (A : Option Addr) (b n c m : Nat) (g : Nat → Int) (w : World) (hT : TabOk w) (hn : n ≤ 1048576) (hI : ∀ i, i < n → w.cell? ⟨b, i, none⟩ = some (.int .i64 (g i))) (hg : ∀ i, i < n → 0 ≤ g i ∧ g i ≤ 9223372036854775807) :
    Calls Tryd.prog 11 #[varV (.slice A n c) (.slice (some ⟨b, 0, none⟩) n m)] w (KeysV n g w) := by
  have HT := Lib.hid hT
  have HI := Lib.hid hI
  have HG := Lib.hid hg
  clear hT hI hg
  go_enter Tryd.func11, Tryd.ntmps11
  go_wp2_with (go_at_call 13; refine (keys_sparse A b n c m g _ (HT.out.later ((Below.refl _ _).alloc (Nat.le_refl _) _)) hn (fun i hi => cell_later ((Below.refl _ _).alloc (Nat.le_refl _) _) (HI.out i hi)) HG.out).mono ?_; rintro e w1 ⟨B, rfl, hc, hb⟩; have HC := Lib.hid hc; have HB := Lib.hid hb; clear hc hb)
  go_ret
  exact ⟨B, rfl, HC.out, ((Below.refl _ _).alloc (Nat.le_refl _) _).trans (HB.out.mono (by simp))⟩
theorem bel2 {w w1 w2 : World} (h1 : Below w.heap.size w w1) (h2 : Below w1.heap.size w1 w2) : Below w.heap.size w w2 := h1.trans (h2.mono h1.size)
set_option maxRecDepth 100000 in
set_option maxHeartbeats 8000000 in
theorem dense (a : Option Addr) (n c : Nat) (f : Nat → ByteArray) (w : World) (hT : TabOk w) (hS : SRow w a n f) (h0 : a = none → n = 0 ∧ c = 0) (hs : ∀ i, i < n → (f i).size ≤ 9223372036854775807) (hn : n ≤ 9223372036854775807) :
    Calls Tryd.prog 3 #[.slice a n c, .slice none 0 0] w fun e w' => e = .returned (.bool true) ∧ Below w.heap.size w w' := by
  have q1 := neq_any
  have HT := Lib.hid hT
  have HS := Lib.hid hS
  have H0 := Lib.hid h0
  have HZ := Lib.hid hs
  clear hT hS h0 hs
  go_enter Tryd.func3, Tryd.ntmps3
  go_upto_region 7 with (first
    | (go_at_call 4; refine (bytes_any _ _ _ _ _ _ 0 f _ HS.out HZ.out hn (by omega)).mono ?_; rintro e w' ⟨x, rfl, hx, rfl⟩; have HX := Lib.hid hx; clear hx; cases x)
    | (go_at_call 5; refine (strsBytes_any _ _ _ f _ HS.out (HX.out rfl).2.2 (HX.out rfl).1).mono ?_; rintro e w' ⟨r, rfl, hr, rfl⟩)
    | (go_at_call 6; refine (intsBytes_any _ _ _ _ (by omega)).mono ?_; rintro e w' ⟨r2, rfl, hr2, rfl⟩; by_cases hbig : 1048576 < r + r2))
  all_goals try (go_ret; exact ⟨rfl, Below.refl _ _⟩)
  have n1 := (HX.out rfl).1
  go_wp2_with (first
    | (go_at_call 9; refine (CS.clone_any _ _ _ f _ HS.out H0.out n1).mono ?_; rintro e w1 ⟨A1, d1, rfl, _, _, _, _, hb1⟩; have HB1 := Lib.hid hb1; clear hb1)
    | (go_at_call 10; refine (CI.clone_nil _).mono ?_; rintro e w' ⟨rfl, rfl⟩)
    | (go_at_call 11; refine (zkeys_dense A1 n d1 _ (HT.out.later (bel2 HB1.out ((Below.refl _ _).alloc (Nat.le_refl _) _))) n1).mono ?_; rintro e w2 ⟨B, rfl, hc, hb⟩; have HC := Lib.hid hc; have HB := Lib.hid (bel2 (bel2 HB1.out ((Below.refl _ _).alloc (Nat.le_refl _) _)) hb); clear hc hb))
  go_loopw [7] (fun vi wr => IncWay n w2 vi wr) (fun vi _ => n + 1 - (intOf vi).toNat)
  case atStart => exact ⟨0, 0, by omega, by simp, drewN_zero w2⟩
  case round =>
    obtain ⟨k, q9, hk, rfl, rfl⟩ := hrel
    by_cases hlt : k + 1 < n
    · have hc0 := HC.out k (by omega)
      have hc1 := HC.out (k + 1) hlt
      have hc2 : w2.cell? ⟨B.block, B.off + (k + 1), none⟩ = some (.string (num (((k + 1 : Nat) : Int)))) := by simpa [Addr.add] using hc1
      have HL : Hid (∀ W : World, Calls Tryd.prog 12 #[.string (num (((k : Nat) : Int))), .string (num (((k + 1 : Nat) : Int)))] W fun e w' => e = .returned (.bool true) ∧ W = w') := Lib.hid (fun W => less_yes _ _ (by omega) (by omega) W)
      have i0 : (0 : Int) ≤ k := by omega
      have i1 : (k : Int) + 1 < n := by omega
      have i2 : (k : Int) < n := by omega
      have i3 : (0 : Int) ≤ (k : Int) + 1 := by omega
      go_upto_region 14 with fail
      have t1 : ((k : Int) + 1).toNat = k + 1 := by omega
      have t2 : IntKind.i64.wrap ((k : Int) + 1 - 1) = k := by rw [show (k : Int) + 1 - 1 = k by omega]; exact IntWalk.i64_in _ (by omega)
      have t3 : IntKind.i64.wrap (k : Int) = k := IntWalk.i64_in _ (by omega)
      have t4 : IntKind.i64.wrap ((k : Int) + 1) = k + 1 := IntWalk.i64_in _ (by omega)
      go_quiet ((go_at_call 12; exact quiet_add_left (HL.out _)))
      clear t1 t2 t3 t4
      go_wp2
      go_roundw
      case rel => exact ⟨k + 1, _, by omega, by go_num, rfl⟩
      case measure => simp [intOf]; omega
    · have hnk : ¬ (k : Int) + 1 < (n : Int) := by omega
      go_wp2
      go_ret
      exact ⟨rfl, below_drewN HB.out _⟩
theorem row_at {w : World} {b n : Nat} {g : Nat → Int} (h : IRow .i64 w (some ⟨b, 0, none⟩) n g) (i : Nat) (hi : i < n) : w.cell? ⟨b, i, none⟩ = some (.int .i64 (g i)) := by
  obtain ⟨x, hx, hc⟩ := h i hi
  injection hx with hx
  subst hx
  rwa [add0] at hc
set_option maxRecDepth 100000 in
set_option maxHeartbeats 8000000 in
theorem uneven (a : Option Addr) (y : Addr) (n c m d : Nat) (f : Nat → ByteArray) (g : Nat → Int) (w : World) (hT : TabOk w) (hS : SRow w a n f) (hG : IRow .i64 w (some y) m g) (h0 : a = none → n = 0 ∧ c = 0) (hs : ∀ i, i < n → (f i).size ≤ 9223372036854775807) (hn : n ≤ 9223372036854775807) (hm : m ≤ 9223372036854775807) (hne : ¬ m = n) :
    Calls Tryd.prog 3 #[.slice a n c, .slice (some y) m d] w fun e w' => e = .returned (.bool true) ∧ Below w.heap.size w w' := by
  have q1 := neq_any
  have HT := Lib.hid hT
  have HS := Lib.hid hS
  have HI := Lib.hid hG
  have H0 := Lib.hid h0
  have HZ := Lib.hid hs
  clear hT hS hG h0 hs
  have y13 : ((m : Int) != (n : Int)) = true := by simp; omega
  have y23 : (m != n) = true := by simp; omega
  go_enter Tryd.func3, Tryd.ntmps3
  go_wp2_with (first
    | (go_at_call 4; refine (bytes_any _ _ _ _ _ _ 0 f _ HS.out HZ.out hn hm).mono ?_; rintro e w' ⟨x, rfl, hx, rfl⟩; have HX := Lib.hid hx; clear hx; cases x)
    | (go_at_call 5; refine (strsBytes_any _ _ _ f _ HS.out (HX.out rfl).2.2 (HX.out rfl).1).mono ?_; rintro e w' ⟨r, rfl, hr, rfl⟩)
    | (go_at_call 6; refine (intsBytes_any _ _ _ _ (HX.out rfl).2.1).mono ?_; rintro e w' ⟨r2, rfl, hr2, rfl⟩; by_cases hbig : 1048576 < r + r2))
  all_goals
    go_ret
    exact ⟨rfl, Below.refl _ _⟩
set_option maxRecDepth 100000 in
set_option maxHeartbeats 8000000 in
theorem unsorted (a : Option Addr) (y : Addr) (n c m d : Nat) (f : Nat → ByteArray) (g : Nat → Int) (w : World) (hT : TabOk w) (hS : SRow w a n f) (hG : IRow .i64 w (some y) m g) (h0 : a = none → n = 0 ∧ c = 0) (hs : ∀ i, i < n → (f i).size ≤ 9223372036854775807) (hn : n ≤ 9223372036854775807) (hm : m ≤ 9223372036854775807) (hmn : m = n) (j : Nat) (hj : j + 1 < m) (hi : ∀ i, i < j → g i < g (i + 1)) (hf : g (j + 1) ≤ g j) :
    Calls Tryd.prog 3 #[.slice a n c, .slice (some y) m d] w fun e w' => e = .returned (.bool true) ∧ Below w.heap.size w w' := by
  have q1 := neq_any
  have HT := Lib.hid hT
  have HS := Lib.hid hS
  have HI := Lib.hid hG
  have H0 := Lib.hid h0
  have HZ := Lib.hid hs
  clear hT hS hG h0 hs
  have HJ := Lib.hid hi
  have HF := Lib.hid hf
  have y13 : ((m : Int) != (n : Int)) = false := by simp; omega
  have y23 : (m != n) = false := by simp; omega
  clear hmn hi hf
  go_enter Tryd.func3, Tryd.ntmps3
  go_wp2_with (first
    | (go_at_call 4; refine (bytes_any _ _ _ _ _ _ 0 f _ HS.out HZ.out hn hm).mono ?_; rintro e w' ⟨x, rfl, hx, rfl⟩; have HX := Lib.hid hx; clear hx; cases x)
    | (go_at_call 5; refine (strsBytes_any _ _ _ f _ HS.out (HX.out rfl).2.2 (HX.out rfl).1).mono ?_; rintro e w' ⟨r, rfl, hr, rfl⟩)
    | (go_at_call 6; refine (intsBytes_any _ _ _ _ (HX.out rfl).2.1).mono ?_; rintro e w' ⟨r2, rfl, hr2, rfl⟩; by_cases hbig : 1048576 < r + r2)
    | (go_at_call 7; refine (inc_no _ m _ j g _ HI.out hj HJ.out HF.out (HX.out rfl).2.1).mono ?_; rintro e w' ⟨rfl, q, rfl⟩))
  all_goals
    go_ret
    exact ⟨rfl, by first | exact Below.refl _ _ | exact below_drewN (Below.refl _ _) _⟩
set_option maxRecDepth 100000 in
set_option maxHeartbeats 8000000 in
theorem even (a : Option Addr) (y : Addr) (n c m d : Nat) (f : Nat → ByteArray) (g : Nat → Int) (w : World) (hT : TabOk w) (hS : SRow w a n f) (hG : IRow .i64 w (some y) m g) (h0 : a = none → n = 0 ∧ c = 0) (hs : ∀ i, i < n → (f i).size ≤ 9223372036854775807) (hn : n ≤ 9223372036854775807) (hm : m ≤ 9223372036854775807) (hmn : m = n) (hi : Inc m g) (hg : ∀ i, i < m → g i ≤ 9223372036854775807) :
    Calls Tryd.prog 3 #[.slice a n c, .slice (some y) m d] w fun e w' => e = .returned (.bool true) ∧ Below w.heap.size w w' := by
  have q1 := neq_any
  have HT := Lib.hid hT
  have HS := Lib.hid hS
  have HI := Lib.hid hG
  have H0 := Lib.hid h0
  have HZ := Lib.hid hs
  clear hT hS hG h0 hs
  have HN := Lib.hid hi
  have HG := Lib.hid hg
  subst hmn
  have y13 : ((m : Int) != (m : Int)) = false := by simp
  have y23 : (m != m) = false := by simp
  clear hi hg
  go_enter Tryd.func3, Tryd.ntmps3
  go_upto_region 7 with (first
    | (go_at_call 4; refine (bytes_any _ _ _ _ _ _ 0 f _ HS.out HZ.out hn hm).mono ?_; rintro e w' ⟨x, rfl, hx, rfl⟩; have HX := Lib.hid hx; clear hx; cases x)
    | (go_at_call 5; refine (strsBytes_any _ _ _ f _ HS.out (HX.out rfl).2.2 (HX.out rfl).1).mono ?_; rintro e w' ⟨r, rfl, hr, rfl⟩)
    | (go_at_call 6; refine (intsBytes_any _ _ _ _ (HX.out rfl).2.1).mono ?_; rintro e w' ⟨r2, rfl, hr2, rfl⟩; by_cases hbig : 1048576 < r + r2)
    | (go_at_call 7; refine (inc_yes _ m _ g _ HI.out HN.out (HX.out rfl).2.1).mono ?_; rintro e w' ⟨rfl, q, rfl⟩)
    | (go_at_call 8; refine (nonneg_any _ m _ g _ (HI.out.heap rfl : IRow .i64 (w.drewN q) _ _ _) (HX.out rfl).2.1).mono ?_; rintro e w' ⟨x, rfl, hx, rfl⟩; have HP := Lib.hid hx; clear hx; cases x))
  all_goals try (go_ret; exact ⟨rfl, by first | exact Below.refl _ _ | exact below_drewN (Below.refl _ _) _⟩)
  have n1 := (HX.out rfl).1
  have HT' : Hid (TabOk (w.drewN q)) := Lib.hid (HT.out.later (below_drewN (Below.refl _ _) q))
  have HB0 : Hid (Below w.heap.size w (w.drewN q)) := Lib.hid (below_drewN (Below.refl _ _) q)
  go_wp2_with (first
    | (go_at_call 9; refine (CS.clone_any _ _ _ f _ (HS.out.heap rfl : SRow (w.drewN q) _ _ _) H0.out n1).mono ?_; rintro e w1 ⟨A1, d1, rfl, _, _, _, _, hb1⟩; have HB1 := Lib.hid hb1; clear hb1)
    | (go_at_call 10; refine (CI.clone_any _ _ _ g _ ((HI.out.heap rfl : IRow .i64 (w.drewN q) _ _ _).below HB1.out) (fun h => by cases h) n1).mono ?_; rintro e w3 ⟨A2, d2, rfl, _, hr3, hs3, _, hb3⟩
       obtain ⟨rfl, hd3⟩ := hs3 rfl
       obtain rfl : m = d2 := hd3.symm
       have HR3 := Lib.hid hr3; have HB3 := Lib.hid (bel2 HB1.out hb3); clear hr3 hb3 hs3)
    | (go_at_call 11; refine (zkeys_sparse A1 w1.heap.size m d1 m g _ (HT'.out.later (bel2 HB3.out ((Below.refl _ _).alloc (Nat.le_refl _) _))) n1 (fun i hi => cell_later ((Below.refl _ _).alloc (Nat.le_refl _) _) (row_at HR3.out i hi)) (fun i hi => ⟨HP.out rfl i hi, HG.out i hi⟩)).mono ?_; rintro e w2 ⟨B, rfl, hc, hb⟩; have HC := Lib.hid hc; have HB := Lib.hid (bel2 HB0.out (bel2 (bel2 HB3.out ((Below.refl _ _).alloc (Nat.le_refl _) _)) hb)); clear hc hb))
  go_loopw [7] (fun vi wr => IncWay m w2 vi wr) (fun vi _ => m + 1 - (intOf vi).toNat)
  case atStart => exact ⟨0, 0, by omega, by simp, drewN_zero w2⟩
  case round =>
    obtain ⟨k, q9, hk, rfl, rfl⟩ := hrel
    by_cases hlt : k + 1 < m
    · have hc0 := HC.out k (by omega)
      have hc1 := HC.out (k + 1) hlt
      have hc2 : w2.cell? ⟨B.block, B.off + (k + 1), none⟩ = some (.string (num (g (k + 1)))) := by simpa [Addr.add] using hc1
      have HL : Hid (∀ W : World, Calls Tryd.prog 12 #[.string (num (g k)), .string (num (g (k + 1)))] W fun e w' => e = .returned (.bool true) ∧ W = w') := Lib.hid (fun W => less_yes _ _ (HP.out rfl k (by omega)) (HN.out k hlt) W)
      have i0 : (0 : Int) ≤ k := by omega
      have i1 : (k : Int) + 1 < m := by omega
      have i2 : (k : Int) < m := by omega
      have i3 : (0 : Int) ≤ (k : Int) + 1 := by omega
      go_upto_region 14 with fail
      have t1 : ((k : Int) + 1).toNat = k + 1 := by omega
      have t2 : IntKind.i64.wrap ((k : Int) + 1 - 1) = k := by rw [show (k : Int) + 1 - 1 = k by omega]; exact IntWalk.i64_in _ (by omega)
      have t3 : IntKind.i64.wrap (k : Int) = k := IntWalk.i64_in _ (by omega)
      have t4 : IntKind.i64.wrap ((k : Int) + 1) = k + 1 := IntWalk.i64_in _ (by omega)
      go_quiet ((go_at_call 12; exact quiet_add_left (HL.out _)))
      clear t1 t2 t3 t4
      go_wp2
      go_roundw
      case rel => exact ⟨k + 1, _, by omega, by go_num, rfl⟩
      case measure => simp [intOf]; omega
    · have hnk : ¬ (k : Int) + 1 < (m : Int) := by omega
      go_wp2
      go_ret
      exact ⟨rfl, below_drewN HB.out _⟩
theorem gPow : Tryd.prog.globalNamed "internal/strconv.uint64pow10" = some 0 := by kernel_rfl
theorem gPowType : (Tryd.prog.globals[0]?).map (·.type) = some 48 := by kernel_rfl
set_option maxHeartbeats 1000000 in
theorem walk (a0 : Option Addr) (len0 cap0 : Nat) (z0 : List ByteArray) (a1 : Option Addr) (len1 cap1 : Nat) (z1 : List Int) (w : World) (w0 : IsStrs w a0 len0 cap0 z0) (w1 : IsRow .i64 w a1 len1 cap1 z1) (hL : laidMetH Tryd.prog Rows.fnIndexedKeysAscendingRow.laid w) :
    Calls Tryd.prog 3 #[.slice a0 len0 cap0, .slice a1 len1 cap1] w fun e w' => e = .returned (.bool true) ∧ Below w.heap.size w w' := by
  have hT : TabOk w := Lib.tabIs_of_head gPow gPowType Tryd.underlying48 Tryd.underlying40 (by kernel_rfl) (by kernel_rfl) (laidMet.tail (laidMet.tail (show laidMet Tryd.prog Rows.fnIndexedKeysAscendingRow.laid w from hL)))
  obtain ⟨r0, q0, s0, b0⟩ := strs_row w0
  obtain ⟨r1, p1, u1, b1⟩ := ints_row w1
  cases a1 with
  | none =>
    obtain ⟨rfl, rfl⟩ := p1 rfl
    exact dense a0 len0 cap0 _ w hT r0 q0 s0 b0
  | some y =>
    by_cases hmn : len1 = len0
    · rcases inc_or (fun i => z1.getD i 0) len1 with h | ⟨j, hj, h1, h2⟩
      · exact even a0 y len0 cap0 len1 cap1 _ _ w hT r0 r1 q0 s0 b0 b1 hmn h (fun i hi => by have := u1 i hi; simp [Lit.wf] at this; exact this.2)
      · exact unsorted a0 y len0 cap0 len1 cap1 _ _ w hT r0 r1 q0 s0 b0 b1 hmn j hj h1 h2
    · exact uneven a0 y len0 cap0 len1 cap1 _ _ w hT r0 r1 q0 s0 b0 b1 hmn

/-! ### THE ROW's STEP: WRITTEN OUT: LEAVE IT -/
/-- the door's own heap meets the condition -/
theorem door_met (os : Os) (args : Array Value) : laidMetH Tryd.prog Rows.fnIndexedKeysAscendingRow.laid ((World.doorLaid Tryd.prog 400 os).forCall (fun _ _ => 0) ⟨#[], args, []⟩).memory :=
  laidMetH_of_parts3 (fuel := 8) (laidMet_of_run' 8 (by kernel_rfl) (by kernel_rfl)) (by kernel_rfl) (by kernel_rfl)
set_option maxRecDepth 100000 in
theorem lifted (os : Os) (started : os.Started) (H : Type) (enc : TypeId × Value → H) :
    ReturnsInHanded {} Tryd.checked os 3 .any (fun w args => (Rows.fnIndexedKeysAscendingSpec.pre enc Tryd.prog Tryd.f3 [] false w args ∧ laidMetH Tryd.prog Rows.fnIndexedKeysAscendingRow.laid w) ∧ sizedMet enc Tryd.prog Tryd.f3 (OpenSpec.ofChange Rows.fnIndexedKeysAscendingSpec) false w args) (Rows.fnIndexedKeysAscendingSpec.post enc Tryd.prog Tryd.f3 false true false false) := by
  refine returnsInHanded_of_change_and (C := Tryd.checked) (X := fun w _ => laidMetH Tryd.prog Rows.fnIndexedKeysAscendingRow.laid w) (fun _ _ _ hh h => h.of_heap hh) own started (by kernel_rfl) Tryd.func3
    (ChangeSpec.witness_shaped (enc := enc) (C := Tryd.checked) (os := os) (X := fun w _ => laidMetH Tryd.prog Rows.fnIndexedKeysAscendingRow.laid w) false (World.doorLaid Tryd.prog 400 os) #[.slice none 0 0, .slice none 0 0] 8 rfl (World.shaped_of_RefB (by kernel_rfl) (by kernel_rfl)) (by kernel_rfl) (by kernel_rfl) (by kernel_rfl) (door_met os _)) ?_
  intro W base args ds gs before hval0 hW _ _ hL _
  have hval : ∀ (j : Nat) t v, Tryd.f3.params[j]? = some t → args[j]? = some v → Value.okWide Tryd.prog W .any base t v := hval0
  have hW' := hW
  obtain ⟨p, q, hA0, hV, rfl, hfz, hnd⟩ := hW
  have hA : DataW.TrodAll enc Tryd.prog W 0 (fun _ => true) true Tryd.f3.params.toList args.toList ds p := hA0
  rw [Tryd.params3] at hA hval
  obtain ⟨v0, vs0, d0, ds0, p0, q0, hargs, rfl, rfl, h0, r0⟩ := trodAll_cons hA
  obtain ⟨v1, vs1, d1, ds1, p1, q1, rfl, rfl, rfl, h1, r1⟩ := trodAll_cons r0
  obtain ⟨rfl, rfl, rfl⟩ := trodAll_nil r1
  obtain rfl : args = #[v0, v1] := by cases args; simp_all
  obtain ⟨rfl, rfl⟩ := trodVars_none hV
  obtain ⟨a0, len0, cap0, rfl⟩ := okWide_slice Tryd.underlying22 (hval 0 22 v0 rfl rfl)
  have k0 := h0
  have lt0 : ∀ x ∈ p0, x.block < W.heap.size := by obtain ⟨m, hm⟩ := k0; exact DataW.trod_lt m _ _ _ hm
  obtain ⟨z0, w0⟩ : ∃ zs, IsStrs W a0 len0 cap0 zs := by
    obtain ⟨fuel, hf⟩ := h0
    rcases open_strings Tryd.underlying22 Tryd.underlying9 (by kernel_rfl) hf with ⟨hcs, _⟩ | ⟨x, l, c, zs, hcs, _, hl, hm, hz, _, hcell, hwz⟩
    · simp [Value.cells] at hcs
      obtain ⟨rfl, rfl, rfl⟩ := hcs
      exact ⟨[], .inl ⟨rfl, rfl, rfl, rfl⟩⟩
    · simp [Value.cells] at hcs
      obtain ⟨rfl, rfl, rfl⟩ := hcs
      exact ⟨zs, .inr ⟨_, rfl, hl, hm, by simpa using hz, hcell, hwz⟩⟩
  obtain ⟨a1, len1, cap1, rfl⟩ := okWide_slice Tryd.underlying23 (hval 1 23 v1 rfl rfl)
  have k1 := h1
  have lt1 : ∀ x ∈ p1, x.block < W.heap.size := by obtain ⟨m, hm⟩ := k1; exact DataW.trod_lt m _ _ _ hm
  obtain ⟨z1, w1⟩ : ∃ zs, IsRow .i64 W a1 len1 cap1 zs := by
    obtain ⟨fuel, hf⟩ := h1
    rcases open_ints Tryd.underlying23 Tryd.underlying3 (by kernel_rfl) hf with ⟨hcs, _⟩ | ⟨x, l, c, zs, hcs, _, hl, hm, hz, _, hcell, hwz⟩
    · simp [Value.cells] at hcs
      obtain ⟨rfl, rfl, rfl⟩ := hcs
      exact ⟨[], .inl ⟨rfl, rfl, rfl, rfl⟩⟩
    · simp [Value.cells] at hcs
      obtain ⟨rfl, rfl, rfl⟩ := hcs
      exact ⟨zs, .inr ⟨_, rfl, hl, hm, by simpa using hz, hcell, hwz⟩⟩
  clear hA0 hval0
  refine (walk a0 len0 cap0 z0 a1 len1 cap1 z1 W w0 w1 hL).mono fun e W' ⟨he, bel⟩ => ?_
  subst he
  exact ⟨_, rfl, _, _, _, [], _, [], hW', trodAll_mk1 (shut_bool Tryd.underlying4 _), (trodAll_cons_mk (Below.trod laidOut (by kernel_rfl) (of_decide_eq_true (by kernel_rfl)) k0 bel lt0) (trodAll_cons_mk (Below.trod laidOut (by kernel_rfl) (of_decide_eq_true (by kernel_rfl)) k1 bel lt1) trodAll_mk0)), rfl, bel.frame _, fun h => by cases h⟩

theorem over : Rows.fnIndexedKeysAscendingRow.holds Tryd.pinned (OpenSpec.ofChange Rows.fnIndexedKeysAscendingSpec) :=
  OpenClaim.holds_of_wide 3 Tryd.f3 rfl rfl rfl rfl rfl rfl rfl ⟨rfl, rfl, rfl, rfl, rfl⟩ rfl rfl rfl rfl rfl (by kernel_rfl) Tryd.func3 (by kernel_rfl)
    (of_decide_eq_true (by kernel_rfl)) (by unfold Func.isWrapper; first | (rw [if_pos (by decide +kernel)]; kernel_rfl) | (rw [if_neg (by decide +kernel)]; exact ⟨rfl, rfl⟩))
    (fun os started H enc _ => lifted os started H enc)

/-- ████ THE STATEMENT ████ -/
theorem proved : Rows.FnIndexedKeysAscendingSaid := over
/-- no parameter wants a stand-in; the program's own looks are as the card has them -/
theorem plain (f : FuncId) (fn : Func) (hf : Tryd.pinned.checked.prog.funcNamed "mvdan.cc/sh/v3/n010_40.FnIndexedKeysAscending" = some f) (hfn : Tryd.pinned.checked.prog.funcs[f]? = some fn) :
    false = Tryd.pinned.checked.prog.looks [] ∧ ∀ (j : Nat) t, fn.params[j]? = some t → Tryd.pinned.checked.prog.wantsStandIn t = false := by
  obtain rfl : f = 3 := Option.some.inj ((show Tryd.prog.funcNamed "mvdan.cc/sh/v3/n010_40.FnIndexedKeysAscending" = some 3 by kernel_rfl).symm.trans hf) |>.symm
  obtain rfl : fn = Tryd.f3 := (Option.some.inj (Tryd.func3.symm.trans hfn)).symm
  refine ⟨by kernel_rfl, fun j t ht => ?_⟩
  rw [Tryd.params3] at ht
  have hm := Array.mem_of_getElem? ht
  simp only [List.mem_toArray, List.mem_cons, List.not_mem_nil, or_false] at hm
  first
    | (rcases hm with rfl | rfl | rfl | rfl | rfl | rfl <;> (show Tryd.prog.wantsStandIn _ = false; kernel_rfl))
    | (rcases hm with rfl | rfl | rfl | rfl | rfl <;> (show Tryd.prog.wantsStandIn _ = false; kernel_rfl))
    | (rcases hm with rfl | rfl | rfl | rfl <;> (show Tryd.prog.wantsStandIn _ = false; kernel_rfl))
    | (rcases hm with rfl | rfl | rfl <;> (show Tryd.prog.wantsStandIn _ = false; kernel_rfl))
    | (rcases hm with rfl | rfl <;> (show Tryd.prog.wantsStandIn _ = false; kernel_rfl))
    | (subst hm; show Tryd.prog.wantsStandIn _ = false; kernel_rfl)
theorem card : Rows.FnIndexedKeysAscendingCardSaid :=
  Claim7.holds_tied_plain_at .later [] _ _ _ _ proved (fun _ h => by cases h) (by kernel_rfl) (fun _ h => by cases h) fnIndexedKeysAscending_row_tie rfl ⟨rfl, rfl⟩ (by kernel_rfl) rfl plain (by kernel_rfl)
#print axioms card
end Go.Proofs.YtijilflnfdgdnaaDoor.fnIndexedKeysAscending
