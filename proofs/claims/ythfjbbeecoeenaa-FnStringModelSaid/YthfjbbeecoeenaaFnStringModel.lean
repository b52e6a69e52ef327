/- Proved here: Variable.String is Str for kind String, the element of index 0 for kind Indexed, and empty for every other kind or where there is none (FnStringModel returns true). No conditions. -/
import Derived.Test.YthfjbbeecoeenaaRows
import Derived.WalkKit
import Derived.Test.YthfjbbeecoeenaaStr
import Derived.ProofKit
import Derived.OpenShut
import Derived.SliceStrings
import Derived.ShutString
import Derived.ChangeOld
import Derived.Below
namespace Go.Proofs.Ythfjbbeecoeenaa.fnStringModel
open Go.ChangeShapes Go.WideShapes Go.ChangeAt Go.RowKit
open Go.ChangeMaps (open_string shut_string)
set_option linter.unusedVariables false

theorem own : ownKnob Try.prog.godebug = none := by kernel_rfl
theorem laidOut : laidOutB Try.prog = true := by kernel_rfl

/-- WHAT THE WALK IS TOLD OF A SLICE OF INTEGERS THAT CAME IN: it is nil; or it leads to a row of 'cap' cells, the numbers 'zs' (the first 'len' are its elements, the rest its spare room), each fitting its kind. -/
def IsRow (k : IntKind) (w : World) (a : Option Addr) (len cap : Nat) (zs : List Int) : Prop :=
  (a = none ∧ len = 0 ∧ cap = 0 ∧ zs = []) ∨
  ∃ x, a = some x ∧ len ≤ cap ∧ cap ≤ maxLen ∧ zs.length = cap ∧ (∀ i, i < zs.length → w.cell? (x.add i) = some (.int k (zs.getD i 0))) ∧ ∀ n ∈ zs, (Lit.int k n).wf = true

/-- WHAT THE WALK IS TOLD OF A SLICE OF STRINGS THAT CAME IN. -/
def IsStrs (w : World) (a : Option Addr) (len cap : Nat) (zs : List ByteArray) : Prop :=
  (a = none ∧ len = 0 ∧ cap = 0 ∧ zs = []) ∨
  ∃ x, a = some x ∧ len ≤ cap ∧ cap ≤ maxLen ∧ zs.length = cap ∧ (∀ i, i < zs.length → w.cell? (x.add i) = some (.string (zs.getD i ByteArray.empty))) ∧ ∀ s ∈ zs, s.size ≤ maxLen

/-! ### STEP 1: THE WALK: the Go text returns true, AND WRITES NOTHING THAT WAS THERE: 'Below w.heap.size w w'' (Derived/Below.lean: '.refl', '.alloc', '.drew', '.setCell' at a new block, '.trans'). Open each 'IsRow' by 'rcases' AHEAD of 'go_enter'; part every test ahead of the walk. -/
set_option maxRecDepth 100000 in
set_option maxHeartbeats 4000000 in
theorem nil_one (b0 b1 b2 b3 : Bool) (kd : Int) (st : ByteArray) (a : Option Addr) (n c : Nat) (f : Nat → ByteArray) (w : World) (hS : SRow w a n f) (h0 : a = none → n = 0 ∧ c = 0) (hs : ∀ i, i < n → (f i).size ≤ 9223372036854775807) (hst : st.size ≤ 9223372036854775807) (hn : n ≤ 9223372036854775807) (k1 : (kd == 1) = true)  :
    Calls Try.prog 5 #[.bool b0, .bool b1, .bool b2, .bool b3, .int .u8 kd, .string st, .slice a n c, .slice none 0 0] w fun e w' => e = .returned (.bool true) ∧ Below w.heap.size w w' := by
  have HS := Lib.hid hS
  have H0 := Lib.hid h0
  have HZ := Lib.hid hs
  clear hS h0 hs
  have q1 := CI.sl_eql
  have q2 := CI.sl_neq
  go_enter Try.func5, Try.ntmps5
  go_wp2_with (first
    | (go_at_call 18; refine (bytes_any _ _ _ _ _ _ _ _ _ _ _ _ f _ HS.out HZ.out hst hn (by omega)).mono ?_; rintro e w' ⟨x1, rfl, hx, rfl⟩; have HX := Lib.hid hx; clear hx; cases x1)
    | (go_at_call 19; refine (tooBig_any _ _ _ _ _ _ _ f _ HS.out (HX.out rfl).2.2.2 (HX.out rfl).1 (HX.out rfl).2.1 (HX.out rfl).2.2.1).mono ?_; rintro e w' ⟨x2, rfl, hx, rfl⟩; clear hx; cases x2)
    | (go_at_call 20; refine (CS.clone_any _ _ _ f _ HS.out H0.out (HX.out rfl).2.1).mono ?_; rintro e w1 ⟨A, c', rfl, _, hS1, _, _, hb1⟩
       skip
       have HB1 := Lib.hid hb1; clear hS1 hb1)
    | (go_at_call 21; refine (CI.clone_nil _).mono ?_; rintro e w' ⟨rfl, rfl⟩)
    | (go_at_call 22; refine (mkVar_any _ _ _ _ _ _ _ _ _ _ _ _ _).mono ?_; rintro e w2 ⟨rfl, hb2⟩
       have HB2 := Lib.hid hb2; clear hb2)
    | (go_at_call 10; refine (str_one _ _ _ _ _ _ _ _ _ k1).mono ?_; rintro e w3 ⟨rfl, hb3⟩
       have HB3 := Lib.hid hb3; clear hb3))
  all_goals
    go_ret
    first
      | exact ⟨rfl, Below.refl _ _⟩
      | exact ⟨by first | rfl | simp, bel3 _ HB1.out HB2.out HB3.out⟩
set_option maxRecDepth 100000 in
set_option maxHeartbeats 4000000 in
theorem nil_else (b0 b1 b2 b3 : Bool) (kd : Int) (st : ByteArray) (a : Option Addr) (n c : Nat) (f : Nat → ByteArray) (w : World) (hS : SRow w a n f) (h0 : a = none → n = 0 ∧ c = 0) (hs : ∀ i, i < n → (f i).size ≤ 9223372036854775807) (hst : st.size ≤ 9223372036854775807) (hn : n ≤ 9223372036854775807) (k1 : (kd == 1) = false) (k3 : (kd == 3) = false) (k4 : (kd == 4) = false ∨ (kd == 4) = true)  :
    Calls Try.prog 5 #[.bool b0, .bool b1, .bool b2, .bool b3, .int .u8 kd, .string st, .slice a n c, .slice none 0 0] w fun e w' => e = .returned (.bool true) ∧ Below w.heap.size w w' := by
  have HS := Lib.hid hS
  have H0 := Lib.hid h0
  have HZ := Lib.hid hs
  clear hS h0 hs
  have q1 := CI.sl_eql
  have q2 := CI.sl_neq
  go_enter Try.func5, Try.ntmps5
  go_wp2_with (first
    | (go_at_call 18; refine (bytes_any _ _ _ _ _ _ _ _ _ _ _ _ f _ HS.out HZ.out hst hn (by omega)).mono ?_; rintro e w' ⟨x1, rfl, hx, rfl⟩; have HX := Lib.hid hx; clear hx; cases x1)
    | (go_at_call 19; refine (tooBig_any _ _ _ _ _ _ _ f _ HS.out (HX.out rfl).2.2.2 (HX.out rfl).1 (HX.out rfl).2.1 (HX.out rfl).2.2.1).mono ?_; rintro e w' ⟨x2, rfl, hx, rfl⟩; clear hx; cases x2)
    | (go_at_call 20; refine (CS.clone_any _ _ _ f _ HS.out H0.out (HX.out rfl).2.1).mono ?_; rintro e w1 ⟨A, c', rfl, _, hS1, _, _, hb1⟩
       skip
       have HB1 := Lib.hid hb1; clear hS1 hb1)
    | (go_at_call 21; refine (CI.clone_nil _).mono ?_; rintro e w' ⟨rfl, rfl⟩)
    | (go_at_call 22; refine (mkVar_any _ _ _ _ _ _ _ _ _ _ _ _ _).mono ?_; rintro e w2 ⟨rfl, hb2⟩
       have HB2 := Lib.hid hb2; clear hb2)
    | (go_at_call 10; refine (str_else _ _ _ _ _ _ _ _ _ k1 k3 k4).mono ?_; rintro e w3 ⟨rfl, hb3⟩
       have HB3 := Lib.hid hb3; clear hb3))
  all_goals
    go_ret
    first
      | exact ⟨rfl, Below.refl _ _⟩
      | exact ⟨by first | rfl | simp, bel3 _ HB1.out HB2.out HB3.out⟩
set_option maxRecDepth 100000 in
set_option maxHeartbeats 4000000 in
theorem nil_some (b0 b1 b2 b3 : Bool) (kd : Int) (st : ByteArray) (a : Option Addr) (n c : Nat) (f : Nat → ByteArray) (w : World) (hS : SRow w a n f) (h0 : a = none → n = 0 ∧ c = 0) (hs : ∀ i, i < n → (f i).size ≤ 9223372036854775807) (hst : st.size ≤ 9223372036854775807) (hn : n ≤ 9223372036854775807) (k1 : (kd == 1) = false) (k3 : (kd == 3) = true) (h0n : 0 < n) :
    Calls Try.prog 5 #[.bool b0, .bool b1, .bool b2, .bool b3, .int .u8 kd, .string st, .slice a n c, .slice none 0 0] w fun e w' => e = .returned (.bool true) ∧ Below w.heap.size w w' := by
  have HS := Lib.hid hS
  have H0 := Lib.hid h0
  have HZ := Lib.hid hs
  clear hS h0 hs
  have q1 := CI.sl_eql
  have q2 := CI.sl_neq
  go_enter Try.func5, Try.ntmps5
  go_wp2_with (first
    | (go_at_call 18; refine (bytes_any _ _ _ _ _ _ _ _ _ _ _ _ f _ HS.out HZ.out hst hn (by omega)).mono ?_; rintro e w' ⟨x1, rfl, hx, rfl⟩; have HX := Lib.hid hx; clear hx; cases x1)
    | (go_at_call 19; refine (tooBig_any _ _ _ _ _ _ _ f _ HS.out (HX.out rfl).2.2.2 (HX.out rfl).1 (HX.out rfl).2.1 (HX.out rfl).2.2.1).mono ?_; rintro e w' ⟨x2, rfl, hx, rfl⟩; clear hx; cases x2)
    | (go_at_call 20; refine (CS.clone_any _ _ _ f _ HS.out H0.out (HX.out rfl).2.1).mono ?_; rintro e w1 ⟨A, c', rfl, _, hS1, _, _, hb1⟩
       obtain ⟨y, rfl, hc1⟩ := hS1 0 h0n
       have hc0 : w1.cell? y = some (.string (f 0)) := by simpa [Addr.add] using hc1
       have HB1 := Lib.hid hb1; clear hS1 hb1)
    | (go_at_call 21; refine (CI.clone_nil _).mono ?_; rintro e w' ⟨rfl, rfl⟩)
    | (go_at_call 22; refine (mkVar_any _ _ _ _ _ _ _ _ _ _ _ _ _).mono ?_; rintro e w2 ⟨rfl, hb2⟩
       have hc2 := cell_later hb2 hc1; clear hc1; have HB2 := Lib.hid hb2; clear hb2)
    | (go_at_call 10; refine (str_dense _ _ _ _ _ _ y n c' (f 0) _ k1 k3 (HX.out rfl).2.1 h0n (al hc2 _)).mono ?_; rintro e w3 ⟨rfl, hb3⟩
       have HB3 := Lib.hid hb3; clear hb3))
  all_goals
    go_ret
    first
      | exact ⟨rfl, Below.refl _ _⟩
      | exact ⟨by first | rfl | simp, bel3 _ HB1.out HB2.out HB3.out⟩
set_option maxRecDepth 100000 in
set_option maxHeartbeats 4000000 in
theorem nil_none (b0 b1 b2 b3 : Bool) (kd : Int) (st : ByteArray) (a : Option Addr) (n c : Nat) (f : Nat → ByteArray) (w : World) (hS : SRow w a n f) (h0 : a = none → n = 0 ∧ c = 0) (hs : ∀ i, i < n → (f i).size ≤ 9223372036854775807) (hst : st.size ≤ 9223372036854775807) (hn : n ≤ 9223372036854775807) (k1 : (kd == 1) = false) (k3 : (kd == 3) = true) (h0n : n = 0) :
    Calls Try.prog 5 #[.bool b0, .bool b1, .bool b2, .bool b3, .int .u8 kd, .string st, .slice a n c, .slice none 0 0] w fun e w' => e = .returned (.bool true) ∧ Below w.heap.size w w' := by
  have HS := Lib.hid hS
  have H0 := Lib.hid h0
  have HZ := Lib.hid hs
  clear hS h0 hs
  have q1 := CI.sl_eql
  have q2 := CI.sl_neq
  have h0z : ¬ (0 : Int) < (n : Int) := by omega
  have h0y : n ≤ 0 := by omega
  clear h0n
  go_enter Try.func5, Try.ntmps5
  go_wp2_with (first
    | (go_at_call 18; refine (bytes_any _ _ _ _ _ _ _ _ _ _ _ _ f _ HS.out HZ.out hst hn (by omega)).mono ?_; rintro e w' ⟨x1, rfl, hx, rfl⟩; have HX := Lib.hid hx; clear hx; cases x1)
    | (go_at_call 19; refine (tooBig_any _ _ _ _ _ _ _ f _ HS.out (HX.out rfl).2.2.2 (HX.out rfl).1 (HX.out rfl).2.1 (HX.out rfl).2.2.1).mono ?_; rintro e w' ⟨x2, rfl, hx, rfl⟩; clear hx; cases x2)
    | (go_at_call 20; refine (CS.clone_any _ _ _ f _ HS.out H0.out (HX.out rfl).2.1).mono ?_; rintro e w1 ⟨A, c', rfl, _, hS1, _, _, hb1⟩
       skip
       have HB1 := Lib.hid hb1; clear hS1 hb1)
    | (go_at_call 21; refine (CI.clone_nil _).mono ?_; rintro e w' ⟨rfl, rfl⟩)
    | (go_at_call 22; refine (mkVar_any _ _ _ _ _ _ _ _ _ _ _ _ _).mono ?_; rintro e w2 ⟨rfl, hb2⟩
       have HB2 := Lib.hid hb2; clear hb2)
    | (go_at_call 10; refine (str_none _ _ _ _ _ _ A n c' _ k1 k3 h0y).mono ?_; rintro e w3 ⟨rfl, hb3⟩
       have HB3 := Lib.hid hb3; clear hb3))
  all_goals
    go_ret
    first
      | exact ⟨rfl, Below.refl _ _⟩
      | exact ⟨by first | rfl | simp, bel3 _ HB1.out HB2.out HB3.out⟩
set_option maxRecDepth 100000 in
set_option maxHeartbeats 4000000 in
theorem uneven (b0 b1 b2 b3 : Bool) (kd : Int) (st : ByteArray) (a : Option Addr) (n c : Nat) (f : Nat → ByteArray) (x : Addr) (m d : Nat) (g : Nat → Int) (w : World) (hS : SRow w a n f) (h0 : a = none → n = 0 ∧ c = 0) (hs : ∀ i, i < n → (f i).size ≤ 9223372036854775807) (hst : st.size ≤ 9223372036854775807) (hn : n ≤ 9223372036854775807) (hm : m ≤ 9223372036854775807) (hne : ¬ m = n) :
    Calls Try.prog 5 #[.bool b0, .bool b1, .bool b2, .bool b3, .int .u8 kd, .string st, .slice a n c, .slice (some x) m d] w fun e w' => e = .returned (.bool true) ∧ Below w.heap.size w w' := by
  have HS := Lib.hid hS
  have H0 := Lib.hid h0
  have HZ := Lib.hid hs
  clear hS h0 hs
  have q1 := CI.sl_eql
  have q2 := CI.sl_neq
  have z1 : ((m : Int) != (n : Int)) = true := by simp; omega
  have z2 : (m != n) = true := by simpa using hne
  have z3 : ¬ (m : Int) = (n : Int) := by omega
  go_enter Try.func5, Try.ntmps5
  go_wp2_with (first
    | (go_at_call 18; refine (bytes_any _ _ _ _ _ _ _ _ _ _ _ _ f _ HS.out HZ.out hst hn hm).mono ?_; rintro e w' ⟨x1, rfl, hx, rfl⟩; have HX := Lib.hid hx; clear hx; cases x1)
    | (go_at_call 19; refine (tooBig_any _ _ _ _ _ _ _ f _ HS.out (HX.out rfl).2.2.2 (HX.out rfl).1 (HX.out rfl).2.1 (HX.out rfl).2.2.1).mono ?_; rintro e w' ⟨x2, rfl, hx, rfl⟩; clear hx; cases x2))
  all_goals
    go_ret
    exact ⟨rfl, Below.refl _ _⟩
set_option maxRecDepth 100000 in
set_option maxHeartbeats 4000000 in
theorem unsorted (b0 b1 b2 b3 : Bool) (kd : Int) (st : ByteArray) (a : Option Addr) (n c : Nat) (f : Nat → ByteArray) (x : Addr) (d : Nat) (g : Nat → Int) (w : World) (hS : SRow w a n f) (h0 : a = none → n = 0 ∧ c = 0) (hs : ∀ i, i < n → (f i).size ≤ 9223372036854775807) (hst : st.size ≤ 9223372036854775807) (hn : n ≤ 9223372036854775807) (hI : IRow .i64 w (some x) n g) (j : Nat) (hj : j + 1 < n) (h1 : ∀ i, i < j → g i < g (i + 1)) (h2 : g (j + 1) ≤ g j) :
    Calls Try.prog 5 #[.bool b0, .bool b1, .bool b2, .bool b3, .int .u8 kd, .string st, .slice a n c, .slice (some x) n d] w fun e w' => e = .returned (.bool true) ∧ Below w.heap.size w w' := by
  have HS := Lib.hid hS
  have H0 := Lib.hid h0
  have HZ := Lib.hid hs
  clear hS h0 hs
  have q1 := CI.sl_eql
  have q2 := CI.sl_neq
  have HI := Lib.hid hI
  have HO := Lib.hid h1
  have HT := Lib.hid h2
  clear hI h1 h2
  go_enter Try.func5, Try.ntmps5
  go_upto_region 8 with (first
    | (go_at_call 18; refine (bytes_any _ _ _ _ _ _ _ _ _ _ _ _ f _ HS.out HZ.out hst hn hn).mono ?_; rintro e w' ⟨x1, rfl, hx, rfl⟩; have HX := Lib.hid hx; clear hx; cases x1)
    | (go_at_call 19; refine (tooBig_any _ _ _ _ _ _ _ f _ HS.out (HX.out rfl).2.2.2 (HX.out rfl).1 (HX.out rfl).2.1 (HX.out rfl).2.2.1).mono ?_; rintro e w' ⟨x2, rfl, hx, rfl⟩; clear hx; cases x2))
  all_goals try (go_ret; exact ⟨rfl, Below.refl _ _⟩)
  have hn' := (HX.out rfl).2.1
  go_wp2_with fail
  go_loopw [17] (fun vi wr => IncWay (j + 1) w vi wr) (fun vi _ => n + 1 - (intOf vi).toNat)
  case atStart => exact ⟨0, 0, by omega, by simp, drewN_zero w⟩
  case round =>
    obtain ⟨k, q, hk, rfl, rfl⟩ := hrel
    by_cases hlt : k < j
    · obtain ⟨x', hx0, hc0⟩ := HI.out k (by omega)
      obtain ⟨x'', hx1, hc1⟩ := HI.out (k + 1) (by omega)
      obtain rfl : x = x' := by injection hx0
      obtain rfl : x = x'' := by injection hx1
      clear hx0 hx1
      have hc2 : w.cell? ⟨x.block, x.off + (k + 1), none⟩ = some (.int .i64 (g (k + 1))) := by simpa [Addr.add] using hc1
      have i0 : (0 : Int) ≤ k := by omega
      have i1 : (k : Int) + 1 < n := by omega
      have i2 : (k : Int) < n := by omega
      have i3 : (0 : Int) ≤ (k : Int) + 1 := by omega
      have ho := HO.out k hlt
      have i4 : ¬ g (k + 1) ≤ g k := by omega
      have i5 : decide (g (k + 1) ≤ g k) = false := by simpa using i4
      go_upto_region 11 with fail
      have t1 : ((k : Int) + 1).toNat = k + 1 := by omega
      have t2 : IntKind.i64.wrap ((k : Int) + 1 - 1) = k := by rw [show (k : Int) + 1 - 1 = k by omega]; exact IntWalk.i64_in _ (by omega)
      have t3 : IntKind.i64.wrap (k : Int) = k := IntWalk.i64_in _ (by omega)
      have t4 : IntKind.i64.wrap ((k : Int) + 1) = k + 1 := IntWalk.i64_in _ (by omega)
      go_quiet (fail)
      clear t1 t2 t3 t4
      go_wp2
      go_roundw
      case rel => exact ⟨k + 1, _, by omega, by go_num, rfl⟩
      case measure => simp [intOf]; omega
    · have e : k = j := by omega
      have hq : g (k + 1) ≤ g k := by rw [e]; exact HT.out
      obtain ⟨x', hx0, hc0⟩ := HI.out k (by omega)
      obtain ⟨x'', hx1, hc1⟩ := HI.out (k + 1) (by omega)
      obtain rfl : x = x' := by injection hx0
      obtain rfl : x = x'' := by injection hx1
      clear hx0 hx1
      have hc2 : w.cell? ⟨x.block, x.off + (k + 1), none⟩ = some (.int .i64 (g (k + 1))) := by simpa [Addr.add] using hc1
      have i0 : (0 : Int) ≤ k := by omega
      have i1 : (k : Int) + 1 < n := by omega
      have i2 : (k : Int) < n := by omega
      have i3 : (0 : Int) ≤ (k : Int) + 1 := by omega
      clear e
      go_upto_region 11 with fail
      have t1 : ((k : Int) + 1).toNat = k + 1 := by omega
      have t2 : IntKind.i64.wrap ((k : Int) + 1 - 1) = k := by rw [show (k : Int) + 1 - 1 = k by omega]; exact IntWalk.i64_in _ (by omega)
      have t3 : IntKind.i64.wrap (k : Int) = k := IntWalk.i64_in _ (by omega)
      have t4 : IntKind.i64.wrap ((k : Int) + 1) = k + 1 := IntWalk.i64_in _ (by omega)
      go_quiet (fail)
      clear t1 t2 t3 t4
      go_wp2
      go_ret
      exact ⟨rfl, below_drewN (below_drewN (Below.refl _ _) _) _⟩
set_option maxRecDepth 100000 in
set_option maxHeartbeats 4000000 in
theorem srt_one (b0 b1 b2 b3 : Bool) (kd : Int) (st : ByteArray) (a : Option Addr) (n c : Nat) (f : Nat → ByteArray) (x : Addr) (d : Nat) (g : Nat → Int) (w : World) (hS : SRow w a n f) (h0 : a = none → n = 0 ∧ c = 0) (hs : ∀ i, i < n → (f i).size ≤ 9223372036854775807) (hst : st.size ≤ 9223372036854775807) (hn : n ≤ 9223372036854775807) (hI : IRow .i64 w (some x) n g) (hinc : Inc n g) (k1 : (kd == 1) = true)  :
    Calls Try.prog 5 #[.bool b0, .bool b1, .bool b2, .bool b3, .int .u8 kd, .string st, .slice a n c, .slice (some x) n d] w fun e w' => e = .returned (.bool true) ∧ Below w.heap.size w w' := by
  have HS := Lib.hid hS
  have H0 := Lib.hid h0
  have HZ := Lib.hid hs
  clear hS h0 hs
  have q1 := CI.sl_eql
  have q2 := CI.sl_neq
  have HI := Lib.hid hI
  have HO := Lib.hid hinc
  clear hI hinc
  go_enter Try.func5, Try.ntmps5
  go_upto_region 8 with (first
    | (go_at_call 18; refine (bytes_any _ _ _ _ _ _ _ _ _ _ _ _ f _ HS.out HZ.out hst hn hn).mono ?_; rintro e w' ⟨x1, rfl, hx, rfl⟩; have HX := Lib.hid hx; clear hx; cases x1)
    | (go_at_call 19; refine (tooBig_any _ _ _ _ _ _ _ f _ HS.out (HX.out rfl).2.2.2 (HX.out rfl).1 (HX.out rfl).2.1 (HX.out rfl).2.2.1).mono ?_; rintro e w' ⟨x2, rfl, hx, rfl⟩; clear hx; cases x2))
  all_goals try (go_ret; exact ⟨rfl, Below.refl _ _⟩)
  have hn' := (HX.out rfl).2.1
  go_wp2_with fail
  go_loopw [17] (fun vi wr => IncWay n w vi wr) (fun vi _ => n + 1 - (intOf vi).toNat)
  case atStart => exact ⟨0, 0, by omega, by simp, drewN_zero w⟩
  case round =>
    obtain ⟨k, q, hk, rfl, rfl⟩ := hrel
    by_cases hlt : k + 1 < n
    · obtain ⟨x', hx0, hc0⟩ := HI.out k (by omega)
      obtain ⟨x'', hx1, hc1⟩ := HI.out (k + 1) (by omega)
      obtain rfl : x = x' := by injection hx0
      obtain rfl : x = x'' := by injection hx1
      clear hx0 hx1
      have hc2 : w.cell? ⟨x.block, x.off + (k + 1), none⟩ = some (.int .i64 (g (k + 1))) := by simpa [Addr.add] using hc1
      have i0 : (0 : Int) ≤ k := by omega
      have i1 : (k : Int) + 1 < n := by omega
      have i2 : (k : Int) < n := by omega
      have i3 : (0 : Int) ≤ (k : Int) + 1 := by omega
      have ho := HO.out k hlt
      have i4 : ¬ g (k + 1) ≤ g k := by omega
      have i5 : decide (g (k + 1) ≤ g k) = false := by simpa using i4
      go_upto_region 11 with fail
      have t1 : ((k : Int) + 1).toNat = k + 1 := by omega
      have t2 : IntKind.i64.wrap ((k : Int) + 1 - 1) = k := by rw [show (k : Int) + 1 - 1 = k by omega]; exact IntWalk.i64_in _ (by omega)
      have t3 : IntKind.i64.wrap (k : Int) = k := IntWalk.i64_in _ (by omega)
      have t4 : IntKind.i64.wrap ((k : Int) + 1) = k + 1 := IntWalk.i64_in _ (by omega)
      go_quiet (fail)
      clear t1 t2 t3 t4
      go_wp2
      go_roundw
      case rel => exact ⟨k + 1, _, by omega, by go_num, rfl⟩
      case measure => simp [intOf]; omega
    · go_wp2_with (first
        | (go_at_call 20; refine (CS.clone_any _ _ _ f _ (HS.out.heap rfl : SRow (w.drewN q) _ _ _) H0.out (HX.out rfl).2.1).mono ?_; rintro e w1 ⟨A, c', rfl, _, hS1, _, _, hb1⟩
           skip
           have HB1 := Lib.hid (belq q hb1); have HB1' := Lib.hid hb1; clear hS1 hb1)
        | (go_at_call 21; refine (CI.clone_row x n _ g _ (row_of ((HI.out.heap rfl : IRow .i64 (w.drewN q) _ _ _).below HB1'.out)).1 (row_of ((HI.out.heap rfl : IRow .i64 (w.drewN q) _ _ _).below HB1'.out)).2 (HX.out rfl).2.1).mono ?_; rintro e w2 ⟨rfl, hown2, hI2, hb2⟩
           have HB2 := Lib.hid (bel2 HB1.out hb2); clear hown2 hI2 hb2)
        | (go_at_call 22; refine (mkVar_any _ _ _ _ _ _ _ _ _ _ _ _ _).mono ?_; rintro e w3 ⟨rfl, hb3⟩
           have HB3 := Lib.hid hb3; clear hb3)
        | (go_at_call 10; refine (str_one _ _ _ _ _ _ _ _ _ k1).mono ?_; rintro e w4 ⟨rfl, hb4⟩
           have HB4 := Lib.hid hb4; clear hb4))
      go_ret
      exact ⟨by first | rfl | simp, bel3 _ HB2.out HB3.out HB4.out⟩
set_option maxRecDepth 100000 in
set_option maxHeartbeats 4000000 in
theorem srt_else (b0 b1 b2 b3 : Bool) (kd : Int) (st : ByteArray) (a : Option Addr) (n c : Nat) (f : Nat → ByteArray) (x : Addr) (d : Nat) (g : Nat → Int) (w : World) (hS : SRow w a n f) (h0 : a = none → n = 0 ∧ c = 0) (hs : ∀ i, i < n → (f i).size ≤ 9223372036854775807) (hst : st.size ≤ 9223372036854775807) (hn : n ≤ 9223372036854775807) (hI : IRow .i64 w (some x) n g) (hinc : Inc n g) (k1 : (kd == 1) = false) (k3 : (kd == 3) = false) (k4 : (kd == 4) = false ∨ (kd == 4) = true)  :
    Calls Try.prog 5 #[.bool b0, .bool b1, .bool b2, .bool b3, .int .u8 kd, .string st, .slice a n c, .slice (some x) n d] w fun e w' => e = .returned (.bool true) ∧ Below w.heap.size w w' := by
  have HS := Lib.hid hS
  have H0 := Lib.hid h0
  have HZ := Lib.hid hs
  clear hS h0 hs
  have q1 := CI.sl_eql
  have q2 := CI.sl_neq
  have HI := Lib.hid hI
  have HO := Lib.hid hinc
  clear hI hinc
  go_enter Try.func5, Try.ntmps5
  go_upto_region 8 with (first
    | (go_at_call 18; refine (bytes_any _ _ _ _ _ _ _ _ _ _ _ _ f _ HS.out HZ.out hst hn hn).mono ?_; rintro e w' ⟨x1, rfl, hx, rfl⟩; have HX := Lib.hid hx; clear hx; cases x1)
    | (go_at_call 19; refine (tooBig_any _ _ _ _ _ _ _ f _ HS.out (HX.out rfl).2.2.2 (HX.out rfl).1 (HX.out rfl).2.1 (HX.out rfl).2.2.1).mono ?_; rintro e w' ⟨x2, rfl, hx, rfl⟩; clear hx; cases x2))
  all_goals try (go_ret; exact ⟨rfl, Below.refl _ _⟩)
  have hn' := (HX.out rfl).2.1
  go_wp2_with fail
  go_loopw [17] (fun vi wr => IncWay n w vi wr) (fun vi _ => n + 1 - (intOf vi).toNat)
  case atStart => exact ⟨0, 0, by omega, by simp, drewN_zero w⟩
  case round =>
    obtain ⟨k, q, hk, rfl, rfl⟩ := hrel
    by_cases hlt : k + 1 < n
    · obtain ⟨x', hx0, hc0⟩ := HI.out k (by omega)
      obtain ⟨x'', hx1, hc1⟩ := HI.out (k + 1) (by omega)
      obtain rfl : x = x' := by injection hx0
      obtain rfl : x = x'' := by injection hx1
      clear hx0 hx1
      have hc2 : w.cell? ⟨x.block, x.off + (k + 1), none⟩ = some (.int .i64 (g (k + 1))) := by simpa [Addr.add] using hc1
      have i0 : (0 : Int) ≤ k := by omega
      have i1 : (k : Int) + 1 < n := by omega
      have i2 : (k : Int) < n := by omega
      have i3 : (0 : Int) ≤ (k : Int) + 1 := by omega
      have ho := HO.out k hlt
      have i4 : ¬ g (k + 1) ≤ g k := by omega
      have i5 : decide (g (k + 1) ≤ g k) = false := by simpa using i4
      go_upto_region 11 with fail
      have t1 : ((k : Int) + 1).toNat = k + 1 := by omega
      have t2 : IntKind.i64.wrap ((k : Int) + 1 - 1) = k := by rw [show (k : Int) + 1 - 1 = k by omega]; exact IntWalk.i64_in _ (by omega)
      have t3 : IntKind.i64.wrap (k : Int) = k := IntWalk.i64_in _ (by omega)
      have t4 : IntKind.i64.wrap ((k : Int) + 1) = k + 1 := IntWalk.i64_in _ (by omega)
      go_quiet (fail)
      clear t1 t2 t3 t4
      go_wp2
      go_roundw
      case rel => exact ⟨k + 1, _, by omega, by go_num, rfl⟩
      case measure => simp [intOf]; omega
    · go_wp2_with (first
        | (go_at_call 20; refine (CS.clone_any _ _ _ f _ (HS.out.heap rfl : SRow (w.drewN q) _ _ _) H0.out (HX.out rfl).2.1).mono ?_; rintro e w1 ⟨A, c', rfl, _, hS1, _, _, hb1⟩
           skip
           have HB1 := Lib.hid (belq q hb1); have HB1' := Lib.hid hb1; clear hS1 hb1)
        | (go_at_call 21; refine (CI.clone_row x n _ g _ (row_of ((HI.out.heap rfl : IRow .i64 (w.drewN q) _ _ _).below HB1'.out)).1 (row_of ((HI.out.heap rfl : IRow .i64 (w.drewN q) _ _ _).below HB1'.out)).2 (HX.out rfl).2.1).mono ?_; rintro e w2 ⟨rfl, hown2, hI2, hb2⟩
           have HB2 := Lib.hid (bel2 HB1.out hb2); clear hown2 hI2 hb2)
        | (go_at_call 22; refine (mkVar_any _ _ _ _ _ _ _ _ _ _ _ _ _).mono ?_; rintro e w3 ⟨rfl, hb3⟩
           have HB3 := Lib.hid hb3; clear hb3)
        | (go_at_call 10; refine (str_else _ _ _ _ _ _ _ _ _ k1 k3 k4).mono ?_; rintro e w4 ⟨rfl, hb4⟩
           have HB4 := Lib.hid hb4; clear hb4))
      go_ret
      exact ⟨by first | rfl | simp, bel3 _ HB2.out HB3.out HB4.out⟩
set_option maxRecDepth 100000 in
set_option maxHeartbeats 4000000 in
theorem srt_hit (b0 b1 b2 b3 : Bool) (kd : Int) (st : ByteArray) (a : Option Addr) (n c : Nat) (f : Nat → ByteArray) (x : Addr) (d : Nat) (g : Nat → Int) (w : World) (hS : SRow w a n f) (h0 : a = none → n = 0 ∧ c = 0) (hs : ∀ i, i < n → (f i).size ≤ 9223372036854775807) (hst : st.size ≤ 9223372036854775807) (hn : n ≤ 9223372036854775807) (hI : IRow .i64 w (some x) n g) (hinc : Inc n g) (k1 : (kd == 1) = false) (k3 : (kd == 3) = true) (p : Nat) (hp : p < n) (hg : g p = 0) :
    Calls Try.prog 5 #[.bool b0, .bool b1, .bool b2, .bool b3, .int .u8 kd, .string st, .slice a n c, .slice (some x) n d] w fun e w' => e = .returned (.bool true) ∧ Below w.heap.size w w' := by
  have HS := Lib.hid hS
  have H0 := Lib.hid h0
  have HZ := Lib.hid hs
  clear hS h0 hs
  have q1 := CI.sl_eql
  have q2 := CI.sl_neq
  have HI := Lib.hid hI
  have HO := Lib.hid hinc
  clear hI hinc
  go_enter Try.func5, Try.ntmps5
  go_upto_region 8 with (first
    | (go_at_call 18; refine (bytes_any _ _ _ _ _ _ _ _ _ _ _ _ f _ HS.out HZ.out hst hn hn).mono ?_; rintro e w' ⟨x1, rfl, hx, rfl⟩; have HX := Lib.hid hx; clear hx; cases x1)
    | (go_at_call 19; refine (tooBig_any _ _ _ _ _ _ _ f _ HS.out (HX.out rfl).2.2.2 (HX.out rfl).1 (HX.out rfl).2.1 (HX.out rfl).2.2.1).mono ?_; rintro e w' ⟨x2, rfl, hx, rfl⟩; clear hx; cases x2))
  all_goals try (go_ret; exact ⟨rfl, Below.refl _ _⟩)
  have hn' := (HX.out rfl).2.1
  go_wp2_with fail
  go_loopw [17] (fun vi wr => IncWay n w vi wr) (fun vi _ => n + 1 - (intOf vi).toNat)
  case atStart => exact ⟨0, 0, by omega, by simp, drewN_zero w⟩
  case round =>
    obtain ⟨k, q, hk, rfl, rfl⟩ := hrel
    by_cases hlt : k + 1 < n
    · obtain ⟨x', hx0, hc0⟩ := HI.out k (by omega)
      obtain ⟨x'', hx1, hc1⟩ := HI.out (k + 1) (by omega)
      obtain rfl : x = x' := by injection hx0
      obtain rfl : x = x'' := by injection hx1
      clear hx0 hx1
      have hc2 : w.cell? ⟨x.block, x.off + (k + 1), none⟩ = some (.int .i64 (g (k + 1))) := by simpa [Addr.add] using hc1
      have i0 : (0 : Int) ≤ k := by omega
      have i1 : (k : Int) + 1 < n := by omega
      have i2 : (k : Int) < n := by omega
      have i3 : (0 : Int) ≤ (k : Int) + 1 := by omega
      have ho := HO.out k hlt
      have i4 : ¬ g (k + 1) ≤ g k := by omega
      have i5 : decide (g (k + 1) ≤ g k) = false := by simpa using i4
      go_upto_region 11 with fail
      have t1 : ((k : Int) + 1).toNat = k + 1 := by omega
      have t2 : IntKind.i64.wrap ((k : Int) + 1 - 1) = k := by rw [show (k : Int) + 1 - 1 = k by omega]; exact IntWalk.i64_in _ (by omega)
      have t3 : IntKind.i64.wrap (k : Int) = k := IntWalk.i64_in _ (by omega)
      have t4 : IntKind.i64.wrap ((k : Int) + 1) = k + 1 := IntWalk.i64_in _ (by omega)
      go_quiet (fail)
      clear t1 t2 t3 t4
      go_wp2
      go_roundw
      case rel => exact ⟨k + 1, _, by omega, by go_num, rfl⟩
      case measure => simp [intOf]; omega
    · have HG := Lib.hid hg
      clear hg
      go_upto_region 23 with (first
        | (go_at_call 20; refine (CS.clone_any _ _ _ f _ (HS.out.heap rfl : SRow (w.drewN q) _ _ _) H0.out (HX.out rfl).2.1).mono ?_; rintro e w1 ⟨A, c', rfl, _, hS1, _, _, hb1⟩
           obtain ⟨y, rfl, hc1⟩ := hS1 p hp
           have HC1 := Lib.hid hc1; clear hc1
           have HB1 := Lib.hid (belq q hb1); have HB1' := Lib.hid hb1; clear hS1 hb1)
        | (go_at_call 21; refine (CI.clone_row x n _ g _ (row_of ((HI.out.heap rfl : IRow .i64 (w.drewN q) _ _ _).below HB1'.out)).1 (row_of ((HI.out.heap rfl : IRow .i64 (w.drewN q) _ _ _).below HB1'.out)).2 (HX.out rfl).2.1).mono ?_; rintro e w2 ⟨rfl, hown2, hI2, hb2⟩
           have HC2 := Lib.hid (cell_later hb2 HC1.out)
           have HI2 := Lib.hid hI2
           have HB2 := Lib.hid (bel2 HB1.out hb2); clear hown2 hI2 hb2))
      generalize w1.heap.size = b at *
      go_wp2_with fail
      go_loop [18, 20] (fun vs vk => ∃ k : Nat, k ≤ p ∧ vk = .int .i64 k ∧ vs = .string ⟨#[]⟩) (fun _ vk => n - (intOf vk).toNat)
      case atStart => exact ⟨0, Nat.zero_le _, rfl, rfl⟩
      case round =>
        obtain ⟨k', hk', rfl, rfl⟩ := hrel
        have hci := HI2.out k' (by omega)
        have i0 : (0 : Int) ≤ (k' : Int) := by omega
        have i1 : (k' : Int) < (n : Int) := by omega
        by_cases hkp : k' = p
        · subst hkp
          rw [HG.out] at hci
          have hcl := HC2.out
          go_wp2_with (first
            | (go_at_call 22; refine (mkVar_any _ _ _ _ _ _ _ _ _ _ _ _ _).mono ?_; rintro e w3 ⟨rfl, hb3⟩
               have HC3 := Lib.hid (cell_later hb3 HC2.out)
               have HI3 := Lib.hid (fun i (h : i < n) => cell_later hb3 (HI2.out i h))
               have HB3 := Lib.hid hb3; clear hb3)
            | (go_at_call 10; refine (str_hit _ _ _ _ _ _ y b n c' k' n g (f k') _ k1 k3 (HX.out rfl).2.1 hp (al HC3.out _) (fun i h => al (HI3.out i h) _) HO.out.lt HG.out).mono ?_; rintro e w4 ⟨rfl, hb4⟩
               have HB4 := Lib.hid hb4; clear hb4))
          go_ret
          exact ⟨by first | rfl | simp, bel3 _ HB2.out HB3.out HB4.out⟩
        · have hne : (g k' == 0) = false := by
            rw [beq_eq_false_iff_ne, ← HG.out]
            have := HO.out.lt k' p (by omega) hp; omega
          go_wp2_with fail
          go_round
          case rel => exact ⟨k' + 1, by omega, by go_num, rfl⟩
          case measure => simp [intOf]; omega
set_option maxRecDepth 100000 in
set_option maxHeartbeats 4000000 in
theorem srt_miss (b0 b1 b2 b3 : Bool) (kd : Int) (st : ByteArray) (a : Option Addr) (n c : Nat) (f : Nat → ByteArray) (x : Addr) (d : Nat) (g : Nat → Int) (w : World) (hS : SRow w a n f) (h0 : a = none → n = 0 ∧ c = 0) (hs : ∀ i, i < n → (f i).size ≤ 9223372036854775807) (hst : st.size ≤ 9223372036854775807) (hn : n ≤ 9223372036854775807) (hI : IRow .i64 w (some x) n g) (hinc : Inc n g) (k1 : (kd == 1) = false) (k3 : (kd == 3) = true) (hg : ∀ j, j < n → ¬ g j = 0) :
    Calls Try.prog 5 #[.bool b0, .bool b1, .bool b2, .bool b3, .int .u8 kd, .string st, .slice a n c, .slice (some x) n d] w fun e w' => e = .returned (.bool true) ∧ Below w.heap.size w w' := by
  have HS := Lib.hid hS
  have H0 := Lib.hid h0
  have HZ := Lib.hid hs
  clear hS h0 hs
  have q1 := CI.sl_eql
  have q2 := CI.sl_neq
  have HI := Lib.hid hI
  have HO := Lib.hid hinc
  clear hI hinc
  go_enter Try.func5, Try.ntmps5
  go_upto_region 8 with (first
    | (go_at_call 18; refine (bytes_any _ _ _ _ _ _ _ _ _ _ _ _ f _ HS.out HZ.out hst hn hn).mono ?_; rintro e w' ⟨x1, rfl, hx, rfl⟩; have HX := Lib.hid hx; clear hx; cases x1)
    | (go_at_call 19; refine (tooBig_any _ _ _ _ _ _ _ f _ HS.out (HX.out rfl).2.2.2 (HX.out rfl).1 (HX.out rfl).2.1 (HX.out rfl).2.2.1).mono ?_; rintro e w' ⟨x2, rfl, hx, rfl⟩; clear hx; cases x2))
  all_goals try (go_ret; exact ⟨rfl, Below.refl _ _⟩)
  have hn' := (HX.out rfl).2.1
  go_wp2_with fail
  go_loopw [17] (fun vi wr => IncWay n w vi wr) (fun vi _ => n + 1 - (intOf vi).toNat)
  case atStart => exact ⟨0, 0, by omega, by simp, drewN_zero w⟩
  case round =>
    obtain ⟨k, q, hk, rfl, rfl⟩ := hrel
    by_cases hlt : k + 1 < n
    · obtain ⟨x', hx0, hc0⟩ := HI.out k (by omega)
      obtain ⟨x'', hx1, hc1⟩ := HI.out (k + 1) (by omega)
      obtain rfl : x = x' := by injection hx0
      obtain rfl : x = x'' := by injection hx1
      clear hx0 hx1
      have hc2 : w.cell? ⟨x.block, x.off + (k + 1), none⟩ = some (.int .i64 (g (k + 1))) := by simpa [Addr.add] using hc1
      have i0 : (0 : Int) ≤ k := by omega
      have i1 : (k : Int) + 1 < n := by omega
      have i2 : (k : Int) < n := by omega
      have i3 : (0 : Int) ≤ (k : Int) + 1 := by omega
      have ho := HO.out k hlt
      have i4 : ¬ g (k + 1) ≤ g k := by omega
      have i5 : decide (g (k + 1) ≤ g k) = false := by simpa using i4
      go_upto_region 11 with fail
      have t1 : ((k : Int) + 1).toNat = k + 1 := by omega
      have t2 : IntKind.i64.wrap ((k : Int) + 1 - 1) = k := by rw [show (k : Int) + 1 - 1 = k by omega]; exact IntWalk.i64_in _ (by omega)
      have t3 : IntKind.i64.wrap (k : Int) = k := IntWalk.i64_in _ (by omega)
      have t4 : IntKind.i64.wrap ((k : Int) + 1) = k + 1 := IntWalk.i64_in _ (by omega)
      go_quiet (fail)
      clear t1 t2 t3 t4
      go_wp2
      go_roundw
      case rel => exact ⟨k + 1, _, by omega, by go_num, rfl⟩
      case measure => simp [intOf]; omega
    · have HG := Lib.hid hg
      clear hg
      go_upto_region 23 with (first
        | (go_at_call 20; refine (CS.clone_any _ _ _ f _ (HS.out.heap rfl : SRow (w.drewN q) _ _ _) H0.out (HX.out rfl).2.1).mono ?_; rintro e w1 ⟨A, c', rfl, _, hS1, _, _, hb1⟩
           skip
           have HB1 := Lib.hid (belq q hb1); have HB1' := Lib.hid hb1; clear hS1 hb1)
        | (go_at_call 21; refine (CI.clone_row x n _ g _ (row_of ((HI.out.heap rfl : IRow .i64 (w.drewN q) _ _ _).below HB1'.out)).1 (row_of ((HI.out.heap rfl : IRow .i64 (w.drewN q) _ _ _).below HB1'.out)).2 (HX.out rfl).2.1).mono ?_; rintro e w2 ⟨rfl, hown2, hI2, hb2⟩
           have hnew := own_lt hown2
           have HI2 := Lib.hid hI2
           have HB2 := Lib.hid (bel2 HB1.out hb2); clear hown2 hI2 hb2))
      generalize w1.heap.size = b at *
      go_wp2_with fail
      go_loop [18, 20] (fun vs vk => ∃ k : Nat, k ≤ n ∧ vk = .int .i64 k ∧ vs = .string ⟨#[]⟩) (fun _ vk => n - (intOf vk).toNat)
      case atStart => exact ⟨0, Nat.zero_le _, rfl, rfl⟩
      case round =>
        obtain ⟨k', hk', rfl, rfl⟩ := hrel
        by_cases hlt' : k' < n
        · have hci := HI2.out k' hlt'
          have i0 : (0 : Int) ≤ (k' : Int) := by omega
          have i1 : (k' : Int) < (n : Int) := by omega
          have hne : (g k' == 0) = false := beq_eq_false_iff_ne.2 (HG.out k' hlt')
          go_wp2_with fail
          go_round
          case rel => exact ⟨k' + 1, by omega, by go_num, rfl⟩
          case measure => simp [intOf]; omega
        · go_wp2_with (first
            | (go_at_call 22; refine (mkVar_any _ _ _ _ _ _ _ _ _ _ _ _ _).mono ?_; rintro e w3 ⟨rfl, hb3⟩
               have HI3 := Lib.hid (fun i (h : i < n) => cell_later hb3 (HI2.out i h))
               have hnew3 := Nat.lt_of_lt_of_le hnew hb3.size
               have HB3 := Lib.hid hb3; clear hb3)
            | (go_at_call 10; refine (str_miss _ _ _ _ _ _ A b n c' n n g _ k1 k3 (HX.out rfl).2.1 (Nat.lt_of_lt_of_le hnew3 (by simp)) (fun i h => al (HI3.out i h) _) HO.out.lt HG.out).mono ?_; rintro e w4 ⟨rfl, hb4⟩
               have HB4 := Lib.hid hb4; clear hb4))
          go_ret
          exact ⟨by first | rfl | simp, bel3 _ HB2.out HB3.out HB4.out⟩
theorem strs_row {w : World} {a : Option Addr} {n c : Nat} {z : List ByteArray} (h : IsStrs w a n c z) :
    SRow w a n (fun i => z.getD i ByteArray.empty) ∧ (a = none → n = 0 ∧ c = 0) ∧ (∀ i, i < n → (z.getD i ByteArray.empty).size ≤ 9223372036854775807) ∧ n ≤ 9223372036854775807 := by
  rcases h with ⟨rfl, rfl, rfl, rfl⟩ | ⟨x, rfl, hl, hm, hz, hcell, hsz⟩
  · exact ⟨fun i h => by omega, fun _ => ⟨rfl, rfl⟩, fun i h => by omega, by omega⟩
  · unfold maxLen at hm hsz
    refine ⟨fun i h => ⟨x, rfl, hcell i (by omega)⟩, (fun h => by cases h), fun i h => ?_, by omega⟩
    rw [List.getD_eq_getElem?_getD, List.getElem?_eq_getElem (by omega)]
    exact hsz _ (List.getElem_mem _)
theorem ints_row {w : World} {a : Option Addr} {n c : Nat} {z : List Int} (h : IsRow .i64 w a n c z) :
    IRow .i64 w a n (fun i => z.getD i 0) ∧ (a = none → n = 0 ∧ c = 0) ∧ n ≤ 9223372036854775807 := by
  rcases h with ⟨rfl, rfl, rfl, rfl⟩ | ⟨x, rfl, hl, hm, hz, hcell, hsz⟩
  · exact ⟨fun i h => by omega, fun _ => ⟨rfl, rfl⟩, by omega⟩
  · unfold maxLen at hm
    exact ⟨fun i h => ⟨x, rfl, hcell i (by omega)⟩, (fun h => by cases h), by omega⟩
theorem walk (a0 : Bool) (a1 : Bool) (a2 : Bool) (a3 : Bool) (a4 : Int) (a5 : ByteArray) (a6 : Option Addr) (len6 cap6 : Nat) (z6 : List ByteArray) (a7 : Option Addr) (len7 cap7 : Nat) (z7 : List Int) (w : World) (w4 : (Lit.int .u8 a4).wf = true) (w5 : a5.size ≤ maxLen) (w6 : IsStrs w a6 len6 cap6 z6) (w7 : IsRow .i64 w a7 len7 cap7 z7) :
    Calls Try.prog 5 #[.bool a0, .bool a1, .bool a2, .bool a3, .int .u8 a4, .string a5, .slice a6 len6 cap6, .slice a7 len7 cap7] w fun e w' => e = .returned (.bool true) ∧ Below w.heap.size w w' := by
  unfold maxLen at w5
  obtain ⟨hS, h0, hs, hn⟩ := strs_row w6
  obtain ⟨hI, h1, hm⟩ := ints_row w7
  clear w4 w6 w7
  rcases Bool.eq_false_or_eq_true (a4 == 1) with k1 | k1
  · cases a7 with
    | none =>
      obtain ⟨rfl, rfl⟩ := h1 rfl
      exact nil_one a0 a1 a2 a3 a4 a5 a6 len6 cap6 _ w hS h0 hs w5 hn k1
    | some x =>
      by_cases hne : len7 = len6
      · subst hne
        rcases inc_or (fun i => z7.getD i 0) len7 with hinc | ⟨j, hj, g1, g2⟩
        · exact srt_one a0 a1 a2 a3 a4 a5 a6 len7 cap6 _ x cap7 _ w hS h0 hs w5 hn hI hinc k1
        · exact unsorted a0 a1 a2 a3 a4 a5 a6 len7 cap6 _ x cap7 _ w hS h0 hs w5 hn hI j hj g1 g2
      · exact uneven a0 a1 a2 a3 a4 a5 a6 len6 cap6 _ x len7 cap7 (fun _ => 0) w hS h0 hs w5 hn hm hne
  rcases Bool.eq_false_or_eq_true (a4 == 3) with k3 | k3
  · cases a7 with
    | none =>
      obtain ⟨rfl, rfl⟩ := h1 rfl
      by_cases hz : len6 = 0
      · exact nil_none a0 a1 a2 a3 a4 a5 a6 len6 cap6 _ w hS h0 hs w5 hn k1 k3 hz
      · exact nil_some a0 a1 a2 a3 a4 a5 a6 len6 cap6 _ w hS h0 hs w5 hn k1 k3 (by omega)
    | some x =>
      by_cases hne : len7 = len6
      · subst hne
        rcases inc_or (fun i => z7.getD i 0) len7 with hinc | ⟨j, hj, g1, g2⟩
        · by_cases hp : ∃ p, p < len7 ∧ z7.getD p 0 = 0
          · obtain ⟨p, hp, hg⟩ := hp
            exact srt_hit a0 a1 a2 a3 a4 a5 a6 len7 cap6 _ x cap7 _ w hS h0 hs w5 hn hI hinc k1 k3 p hp hg
          · exact srt_miss a0 a1 a2 a3 a4 a5 a6 len7 cap6 _ x cap7 _ w hS h0 hs w5 hn hI hinc k1 k3 (fun j hj hg => hp ⟨j, hj, hg⟩)
        · exact unsorted a0 a1 a2 a3 a4 a5 a6 len7 cap6 _ x cap7 _ w hS h0 hs w5 hn hI j hj g1 g2
      · exact uneven a0 a1 a2 a3 a4 a5 a6 len6 cap6 _ x len7 cap7 (fun _ => 0) w hS h0 hs w5 hn hm hne
  have k4 := (Bool.eq_false_or_eq_true (a4 == 4)).symm
  cases a7 with
  | none =>
    obtain ⟨rfl, rfl⟩ := h1 rfl
    exact nil_else a0 a1 a2 a3 a4 a5 a6 len6 cap6 _ w hS h0 hs w5 hn k1 k3 k4
  | some x =>
    by_cases hne : len7 = len6
    · subst hne
      rcases inc_or (fun i => z7.getD i 0) len7 with hinc | ⟨j, hj, g1, g2⟩
      · exact srt_else a0 a1 a2 a3 a4 a5 a6 len7 cap6 _ x cap7 _ w hS h0 hs w5 hn hI hinc k1 k3 k4
      · exact unsorted a0 a1 a2 a3 a4 a5 a6 len7 cap6 _ x cap7 _ w hS h0 hs w5 hn hI j hj g1 g2
    · exact uneven a0 a1 a2 a3 a4 a5 a6 len6 cap6 _ x len7 cap7 (fun _ => 0) w hS h0 hs w5 hn hm hne

/-! ### THE ROW's STEP: WRITTEN OUT: LEAVE IT -/
set_option maxRecDepth 100000 in
theorem lifted (os : Os) (started : os.Started) (H : Type) (enc : TypeId × Value → H) :
    ReturnsInHanded {} Try.checked os 5 .any (Rows.fnStringModelSpec.pre6 enc Try.prog Try.f5 Rows.fnStringModelRow.domain false) (Rows.fnStringModelSpec.post enc Try.prog Try.f5 false true false false) := by
  refine returnsInHanded_of_change (C := Try.checked) own started (by kernel_rfl) Try.func5
    (ChangeSpec.witness6 (enc := enc) (C := Try.checked) false ⟨#[], #[.bool false, .bool false, .bool false, .bool false, .int .u8 0, .string ByteArray.empty, .slice none 0 0, .slice none 0 0], []⟩ 8 (by kernel_rfl) (by kernel_rfl) (by kernel_rfl) (by kernel_rfl)) ?_
  intro W base args ds gs before hval0 hW hcnd _
  have hval : ∀ (j : Nat) t v, Try.f5.params[j]? = some t → args[j]? = some v → Value.okWide Try.prog W .any base t v := hval0
  have hW' := hW
  obtain ⟨p, q, hA0, hV, rfl, hfz, hnd⟩ := hW
  have hA : DataW.TrodAll enc Try.prog W 0 (fun _ => true) true Try.f5.params.toList args.toList ds p := hA0
  rw [Try.params5] at hA hval
  obtain ⟨v0, vs0, d0, ds0, p0, q0, hargs, rfl, rfl, h0, r0⟩ := trodAll_cons hA
  obtain ⟨v1, vs1, d1, ds1, p1, q1, rfl, rfl, rfl, h1, r1⟩ := trodAll_cons r0
  obtain ⟨v2, vs2, d2, ds2, p2, q2, rfl, rfl, rfl, h2, r2⟩ := trodAll_cons r1
  obtain ⟨v3, vs3, d3, ds3, p3, q3, rfl, rfl, rfl, h3, r3⟩ := trodAll_cons r2
  obtain ⟨v4, vs4, d4, ds4, p4, q4, rfl, rfl, rfl, h4, r4⟩ := trodAll_cons r3
  obtain ⟨v5, vs5, d5, ds5, p5, q5, rfl, rfl, rfl, h5, r5⟩ := trodAll_cons r4
  obtain ⟨v6, vs6, d6, ds6, p6, q6, rfl, rfl, rfl, h6, r6⟩ := trodAll_cons r5
  obtain ⟨v7, vs7, d7, ds7, p7, q7, rfl, rfl, rfl, h7, r7⟩ := trodAll_cons r6
  obtain ⟨rfl, rfl, rfl⟩ := trodAll_nil r7
  obtain rfl : args = #[v0, v1, v2, v3, v4, v5, v6, v7] := by cases args; simp_all
  obtain ⟨rfl, rfl⟩ := trodVars_none hV
  obtain ⟨a0, rfl, rfl, rfl⟩ := open_bool Try.underlying4 (hval 0 4 v0 rfl rfl) h0
  obtain ⟨a1, rfl, rfl, rfl⟩ := open_bool Try.underlying4 (hval 1 4 v1 rfl rfl) h1
  obtain ⟨a2, rfl, rfl, rfl⟩ := open_bool Try.underlying4 (hval 2 4 v2 rfl rfl) h2
  obtain ⟨a3, rfl, rfl, rfl⟩ := open_bool Try.underlying4 (hval 3 4 v3 rfl rfl) h3
  obtain ⟨a4, rfl, rfl, rfl, w4⟩ := open_int Try.underlying5 (hval 4 5 v4 rfl rfl) h4
  obtain ⟨a5, rfl, rfl, rfl, w5⟩ := open_string Try.underlying9 (hval 5 9 v5 rfl rfl) h5
  obtain ⟨a6, len6, cap6, rfl⟩ := okWide_slice Try.underlying23 (hval 6 23 v6 rfl rfl)
  have k6 := h6
  have lt6 : ∀ x ∈ p6, x.block < W.heap.size := by obtain ⟨m, hm⟩ := k6; exact DataW.trod_lt m _ _ _ hm
  obtain ⟨z6, w6⟩ : ∃ zs, IsStrs W a6 len6 cap6 zs := by
    obtain ⟨fuel, hf⟩ := h6
    rcases open_strings Try.underlying23 Try.underlying9 (by kernel_rfl) hf with ⟨hcs, _⟩ | ⟨x, l, c, zs, hcs, _, hl, hm, hz, _, hcell, hwz⟩
    · simp [Value.cells] at hcs
      obtain ⟨rfl, rfl, rfl⟩ := hcs
      exact ⟨[], .inl ⟨rfl, rfl, rfl, rfl⟩⟩
    · simp [Value.cells] at hcs
      obtain ⟨rfl, rfl, rfl⟩ := hcs
      exact ⟨zs, .inr ⟨_, rfl, hl, hm, by simpa using hz, hcell, hwz⟩⟩
  obtain ⟨a7, len7, cap7, rfl⟩ := okWide_slice Try.underlying25 (hval 7 25 v7 rfl rfl)
  have k7 := h7
  have lt7 : ∀ x ∈ p7, x.block < W.heap.size := by obtain ⟨m, hm⟩ := k7; exact DataW.trod_lt m _ _ _ hm
  obtain ⟨z7, w7⟩ : ∃ zs, IsRow .i64 W a7 len7 cap7 zs := by
    obtain ⟨fuel, hf⟩ := h7
    rcases open_ints Try.underlying25 Try.underlying3 (by kernel_rfl) hf with ⟨hcs, _⟩ | ⟨x, l, c, zs, hcs, _, hl, hm, hz, _, hcell, hwz⟩
    · simp [Value.cells] at hcs
      obtain ⟨rfl, rfl, rfl⟩ := hcs
      exact ⟨[], .inl ⟨rfl, rfl, rfl, rfl⟩⟩
    · simp [Value.cells] at hcs
      obtain ⟨rfl, rfl, rfl⟩ := hcs
      exact ⟨zs, .inr ⟨_, rfl, hl, hm, by simpa using hz, hcell, hwz⟩⟩
  clear hA0 hval0
  refine (walk a0 a1 a2 a3 a4 a5 a6 len6 cap6 z6 a7 len7 cap7 z7 W w4 w5 w6 w7).mono fun e W' ⟨he, bel⟩ => ?_
  subst he
  exact ⟨_, rfl, _, _, _, [], _, [], hW', trodAll_mk1 (shut_bool Try.underlying4 _), (trodAll_cons_mk (shut_bool Try.underlying4 _) (trodAll_cons_mk (shut_bool Try.underlying4 _) (trodAll_cons_mk (shut_bool Try.underlying4 _) (trodAll_cons_mk (shut_bool Try.underlying4 _) (trodAll_cons_mk (shut_int Try.underlying5 w4) (trodAll_cons_mk (shut_string Try.underlying9 w5) (trodAll_cons_mk (Below.trod laidOut (by kernel_rfl) (of_decide_eq_true (by kernel_rfl)) k6 bel lt6) (trodAll_cons_mk (Below.trod laidOut (by kernel_rfl) (of_decide_eq_true (by kernel_rfl)) k7 bel lt7) trodAll_mk0)))))))), rfl, bel.frame _, fun h => by cases h⟩

theorem over : Rows.fnStringModelRow.holds Try.pinned (OpenSpec.ofChange Rows.fnStringModelSpec) :=
  OpenClaim.holds_of_wide 5 Try.f5 rfl rfl rfl rfl rfl rfl rfl ⟨rfl, rfl, rfl, rfl, rfl⟩ rfl rfl rfl rfl rfl (by kernel_rfl) Try.func5 (by kernel_rfl)
    (of_decide_eq_true (by kernel_rfl)) (by unfold Func.isWrapper; first | (rw [if_pos (by decide +kernel)]; kernel_rfl) | (rw [if_neg (by decide +kernel)]; exact ⟨rfl, rfl⟩))
    (fun os started H enc _ => lifted os started H enc)

/-- ████ THE STATEMENT ████ -/
theorem proved : Rows.FnStringModelSaid := over
#print axioms proved
end Go.Proofs.Ythfjbbeecoeenaa.fnStringModel
