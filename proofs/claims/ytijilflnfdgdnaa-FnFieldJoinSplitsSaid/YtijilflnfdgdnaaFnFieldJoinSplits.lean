/- Proved here: joining a list of parts equals joining its first k parts followed by joining the rest, whatever the quote levels (FnFieldJoinSplits returns true). No conditions. -/
import Derived.Test.YtijilflnfdgdnaaRows
import Derived.WalkKit
import Derived.Test.YtijilflnfdgdnaaJoin
import Derived.Test.YtijilflnfdgdnaaFCloneS
import Derived.Test.YtijilflnfdgdnaaFCloneB
import Derived.Deep.DeepCutAuto
import Derived.Lib.Strings
import Derived.ProofKit
import Derived.OpenShut
import Derived.SliceStrings
import Derived.ShutString
import Derived.ChangeOld
import Derived.Below
namespace Go.Proofs.Ytijilflnfdgdnaa.fnFieldJoinSplits
open Go.ChangeShapes Go.WideShapes Go.ChangeAt Go.RowKit
open Go.ChangeMaps (open_string shut_string)
set_option linter.unusedVariables false

theorem own : ownKnob Try.prog.godebug = none := by kernel_rfl
theorem laidOut : laidOutB Try.prog = true := by kernel_rfl

/-- WHAT THE WALK IS TOLD OF A SLICE OF INTEGERS THAT CAME IN: it is nil; or it leads to a row of 'cap' cells, the numbers 'zs' (the first 'len' are its elements, the rest its spare room), each fitting its kind. -/
def IsRow (k : IntKind) (w : World) (a : Option Addr) (len cap : Nat) (zs : List Int) : Prop :=
  (a = none ∧ len = 0 ∧ cap = 0 ∧ zs = []) ∨
  ∃ x, a = some x ∧ len ≤ cap ∧ cap ≤ maxLen ∧ zs.length = cap ∧ (∀ i, i < zs.length → w.cell? (x.add i) = some (.int k (zs.getD i 0))) ∧ ∀ n ∈ zs, (Lit.int k n).wf = true

/-- WHAT THE WALK IS TOLD OF A SLICE OF STRINGS THAT CAME IN. -/
def IsStrs (w : World) (a : Option Addr) (len cap : Nat) (zs : List ByteArray) : Prop :=
  (a = none ∧ len = 0 ∧ cap = 0 ∧ zs = []) ∨
  ∃ x, a = some x ∧ len ≤ cap ∧ cap ≤ maxLen ∧ zs.length = cap ∧ (∀ i, i < zs.length → w.cell? (x.add i) = some (.string (zs.getD i ByteArray.empty))) ∧ ∀ s ∈ zs, s.size ≤ maxLen

/-! ### STEP 1: THE WALK: the Go text returns true, AND WRITES NOTHING THAT WAS THERE: 'Below w.heap.size w w'' (Derived/Below.lean: '.refl', '.alloc', '.drew', '.setCell' at a new block, '.trans'). Open each 'IsRow' by 'rcases' AHEAD of 'go_enter'; part every test ahead of the walk. -/
open FJ
theorem strs_row {w : World} {a : Option Addr} {n c : Nat} {z : List ByteArray} (h : IsStrs w a n c z) :
    SRow w a n (fun i => z.getD i ByteArray.empty) ∧ (a = none → n = 0 ∧ c = 0) ∧ (∀ i, i < n → (z.getD i ByteArray.empty).size ≤ 9223372036854775807) ∧ n ≤ 9223372036854775807 := by
  rcases h with ⟨rfl, rfl, rfl, rfl⟩ | ⟨x, rfl, hl, hm, hz, hcell, hs⟩
  · exact ⟨fun i hi => absurd hi (Nat.not_lt_zero i), fun _ => ⟨rfl, rfl⟩, fun i hi => absurd hi (Nat.not_lt_zero i), by omega⟩
  · unfold maxLen at hm
    refine ⟨fun i hi => ⟨x, rfl, hcell i (by omega)⟩, (fun h => by cases h), fun i hi => ?_, by omega⟩
    have h1 : i < z.length := by omega
    have := hs (z.getD i ByteArray.empty) (by rw [List.getD_eq_getElem?_getD, List.getElem?_eq_getElem h1]; exact List.getElem_mem h1)
    unfold maxLen at this
    exact this
theorem ints_row {k : IntKind} {w : World} {a : Option Addr} {n c : Nat} {z : List Int} (h : IsRow k w a n c z) :
    IRow k w a n (fun i => z.getD i 0) ∧ (a = none → n = 0 ∧ c = 0) ∧ (∀ i, i < n → (Lit.int k (z.getD i 0)).wf = true) ∧ n ≤ 9223372036854775807 := by
  rcases h with ⟨rfl, rfl, rfl, rfl⟩ | ⟨x, rfl, hl, hm, hz, hcell, hs⟩
  · exact ⟨fun i hi => absurd hi (Nat.not_lt_zero i), fun _ => ⟨rfl, rfl⟩, fun i hi => absurd hi (Nat.not_lt_zero i), by omega⟩
  · unfold maxLen at hm
    refine ⟨fun i hi => ⟨x, rfl, hcell i (by omega)⟩, (fun h => by cases h), fun i hi => ?_, by omega⟩
    have h1 : i < z.length := by omega
    exact hs (z.getD i 0) (by rw [List.getD_eq_getElem?_getD, List.getElem?_eq_getElem h1]; exact List.getElem_mem h1)
/-- the bounds that a true zzBytes_ gives -/
def Small (n m : Nat) (f : Nat → ByteArray) : Prop := n ≤ 1048576 ∧ m ≤ 1048576 ∧ (∀ k, k ≤ n → (cat f k).length ≤ 1048576) ∧ ∀ i, i < n → (f i).size ≤ 1048576
def Way (n : Nat) (f : Nat → ByteArray) (vz vi : Value) : Prop := ∃ k z : Nat, k ≤ n ∧ z ≤ 1048576 ∧ vi = .int .i64 k ∧ vz = .int .i64 z ∧ (∀ j, j ≤ k → (cat f j).length ≤ z) ∧ ∀ i, i < k → (f i).size ≤ 1048576
set_option maxHeartbeats 2000000 in
theorem bytes_any (a b : Option Addr) (n c m d : Nat) (f : Nat → ByteArray) (x : Int) (w : World) (h : SRow w a n f) (hs : ∀ i, i < n → (f i).size ≤ 9223372036854775807) (hn : n ≤ 9223372036854775807) (hm : m ≤ 9223372036854775807) :
    Calls Try.prog 12 #[.slice a n c, .slice b m d, .int .i64 x] w (AnyBool (Small n m f) w) := by
  have H := Lib.hid h
  have HS := Lib.hid hs
  clear h hs
  by_cases hbig : 1048576 < n
  · have hb : (1048576 : Int) < (n : Int) := by omega
    go_enter Try.func12, Try.ntmps12
    go_wp2
    go_ret
    exact ⟨false, rfl, (fun h => by cases h), rfl⟩
  have hb : ¬ (1048576 : Int) < (n : Int) := by omega
  go_enter Try.func12, Try.ntmps12
  go_wp2
  go_loop [7, 8] (fun vz vi => Way n f vz vi) (fun _ vi => n - (intOf vi).toNat)
  case atStart => exact ⟨0, n, Nat.zero_le _, by omega, rfl, by go_num, (fun j hj => by rw [show j = 0 by omega]; simp [cat]), fun i hi => absurd hi (Nat.not_lt_zero i)⟩
  case round =>
    obtain ⟨k, z, hk, hz, rfl, rfl, hall, hsm⟩ := hrel
    have HA := Lib.hid hall
    have HM := Lib.hid hsm
    clear hall hsm
    by_cases hlt : k < n
    · obtain ⟨y, rfl, hc⟩ := H.out k hlt
      have hsz := HS.out k hlt
      have i0 : (0 : Int) ≤ (k : Int) := by omega
      have i1 : (k : Int) < (n : Int) := by omega
      by_cases h1 : 1048576 < (f k).size
      · go_wp2
        go_ret
        exact ⟨false, rfl, (fun h => by cases h), rfl⟩
      by_cases h2 : 1048576 < z + (f k).size
      · go_wp2
        go_ret
        exact ⟨false, rfl, (fun h => by cases h), rfl⟩
      · go_wp2
        go_round
        case rel =>
          refine ⟨k + 1, z + (f k).size, by omega, by omega, by go_num, by go_num, fun j hj => ?_, fun i hi => ?_⟩
          · rcases Nat.lt_or_ge j (k + 1) with h | h
            · have := HA.out j (by omega); omega
            · obtain rfl : j = k + 1 := by omega
              have := HA.out k (Nat.le_refl _)
              have e : (f k).data.toList.length = (f k).size := by simp
              simp only [cat, List.length_append, e]
              omega
          · rcases Nat.lt_or_ge i k with h | h
            · exact HM.out i h
            · obtain rfl : i = k := by omega
              omega
        case measure => simp [intOf]; omega
    · have hnk : ¬ (k : Int) < (n : Int) := by omega
      obtain rfl : k = n := by omega
      by_cases g1 : 1048576 < m
      · go_wp2
        go_ret
        exact ⟨false, rfl, (fun h => by cases h), rfl⟩
      by_cases g2 : 1048576 < z + m
      · go_wp2
        go_ret
        exact ⟨false, rfl, (fun h => by cases h), rfl⟩
      · go_wp2
        go_ret
        exact ⟨true, rfl, (fun _ => ⟨by omega, by omega, fun j hj => Nat.le_trans (HA.out j hj) hz, HM.out⟩), rfl⟩
theorem ret_int {k : IntKind} {a b : Int} (h : a = b) : Ending.returned (.int k a) = .returned (.int k b) := by rw [h]
set_option maxHeartbeats 2000000 in
set_option maxRecDepth 100000 in
theorem b10_any (a : Option Addr) (n c : Nat) (f : Nat → ByteArray) (w : World) (h : SRow w a n f) (hs : ∀ i, i < n → (f i).size ≤ 1048576) (hn : n ≤ 1048576) :
    Calls Try.prog 13 #[.slice a n c] w (AnyNat 2097152 w) := by
  have H := Lib.hid h
  have HS := Lib.hid hs
  clear h hs
  go_enter Try.func13, Try.ntmps13
  go_wp2
  go_loop [3, 4] (fun vz vi => ∃ k z : Nat, k ≤ n ∧ z ≤ 1048576 ∧ vi = .int .i64 k ∧ vz = .int .i64 z) (fun _ vi => n - (intOf vi).toNat)
  case atStart => exact ⟨0, 0, Nat.zero_le _, by omega, rfl, rfl⟩
  case round =>
    obtain ⟨k, z, hk, hz, rfl, rfl⟩ := hrel
    by_cases hlt : k < n
    · obtain ⟨y, rfl, hc⟩ := H.out k hlt
      have hsz := HS.out k hlt
      have i0 : (0 : Int) ≤ (k : Int) := by omega
      have i1 : (k : Int) < (n : Int) := by omega
      by_cases h2 : (1048576 : Int) < (z : Int) + (((f k).size : Int) + 8)
      · go_wp2
        go_ret
        exact ⟨2097152, ret_int (by simp), Nat.le_refl _, rfl⟩
      · go_wp2
        go_round
        case rel => exact ⟨k + 1, z + ((f k).size + 8), by omega, by omega, by go_num, by go_num⟩
        case measure => simp [intOf]; omega
    · have hnk : ¬ (k : Int) < (n : Int) := by omega
      go_wp2
      go_ret
      exact ⟨z, rfl, by omega, rfl⟩
set_option maxRecDepth 100000 in
set_option maxHeartbeats 4000000 in
theorem early (a b : Option Addr) (n c m d : Nat) (f : Nat → ByteArray) (x : Int) (w : World) (h : SRow w a n f) (hs : ∀ i, i < n → (f i).size ≤ 9223372036854775807) (hn : n ≤ 9223372036854775807) (hm : m ≤ 9223372036854775807) (hx : x < 0 ∨ (n : Int) < x) :
    Calls Try.prog 4 #[.slice a n c, .slice b m d, .int .i64 x] w fun e w' => e = .returned (.bool true) ∧ Below w.heap.size w w' := by
  have H := Lib.hid h
  have HS := Lib.hid hs
  clear h hs
  rcases hx with hx | hx
  all_goals
    go_enter Try.func4, Try.ntmps4
    go_wp2_with (first
      | (go_at_call 12; refine (bytes_any _ _ _ _ _ _ f _ _ H.out HS.out hn hm).mono ?_; rintro e w' ⟨x, rfl, hx, rfl⟩; have HX := Lib.hid hx; clear hx; cases x)
      | (go_at_call 13; refine (b10_any _ _ _ f _ H.out (HX.out rfl).2.2.2 (HX.out rfl).1).mono ?_; rintro e w' ⟨r, rfl, hr, rfl⟩; have m1 := (HX.out rfl).2.1))
    all_goals
      go_ret
      exact ⟨rfl, Below.refl _ _⟩
theorem cat_shift (f : Nat → ByteArray) (k : Nat) : ∀ n, cat f (k + n) = cat f k ++ cat (fun i => f (k + i)) n
  | 0 => by simp [cat]
  | n + 1 => by rw [← Nat.add_assoc]; simp only [cat]; rw [cat_shift f k n, List.append_assoc]
theorem add_two (g k i : Nat) : (⟨g, k, none⟩ : Addr).add i = (⟨g, 0, none⟩ : Addr).add (k + i) := by unfold Addr.add; split <;> split <;> simp_all
theorem ret_true {x : Bool} (h : x = true) : Ending.returned (.bool x) = .returned (.bool true) := by rw [h]
theorem joined (x y z : List UInt8) (h : x = y ++ z) : (x == ((⟨y.toArray⟩ : ByteArray) ++ (⟨z.toArray⟩ : ByteArray)).toList) = true := by
  rw [Lib.toList_data, h]
  simp
theorem cat_len_le (f : Nat → ByteArray) (k n : Nat) (h : k ≤ n) : (cat f k).length ≤ (cat f n).length := by
  obtain ⟨m, rfl⟩ := Nat.le.dest h
  rw [cat_shift]; simp
set_option maxRecDepth 100000 in
set_option maxHeartbeats 8000000 in
theorem late (a b : Option Addr) (n c m d k : Nat) (f : Nat → ByteArray) (q : Nat → Int) (w : World) (h : SRow w a n f) (hq : IRow .u8 w b m q) (h0 : a = none → n = 0 ∧ c = 0) (hb0 : b = none → m = 0 ∧ d = 0) (hs : ∀ i, i < n → (f i).size ≤ 9223372036854775807) (hn : n ≤ 9223372036854775807) (hm : m ≤ 9223372036854775807) (hk : k ≤ n) :
    Calls Try.prog 4 #[.slice a n c, .slice b m d, .int .i64 k] w fun e w' => e = .returned (.bool true) ∧ Below w.heap.size w w' := by
  have H := Lib.hid h
  have HQ := Lib.hid hq
  have H0 := Lib.hid h0
  have HB0 := Lib.hid hb0
  have HS := Lib.hid hs
  clear h hs hq h0 hb0
  have k1 : ¬ (n : Int) < (k : Int) := by omega
  have k0 : ¬ (k : Int) < 0 := by omega
  go_enter Try.func4, Try.ntmps4
  go_upto_region 9 with (first
    | (go_at_call 12; refine (bytes_any _ _ _ _ _ _ f _ _ H.out HS.out hn hm).mono ?_; rintro e w' ⟨x, rfl, hx, rfl⟩; have HX := Lib.hid hx; clear hx; cases x)
    | (go_at_call 13; refine (b10_any _ _ _ f _ H.out (HX.out rfl).2.2.2 (HX.out rfl).1).mono ?_; rintro e w' ⟨r, rfl, hr, rfl⟩; have m1 := (HX.out rfl).2.1; by_cases hbig : 1048576 < r + m))
  all_goals try (go_ret; exact ⟨rfl, Below.refl _ _⟩)
  have n1 := (HX.out rfl).1
  go_wp2_with (first
    | (go_at_call 14; refine (FCS.clone_any _ _ _ f _ H.out H0.out n1).mono ?_; rintro e w1 ⟨A1, d1, rfl, hi1, R1, hs1, hno1, hb1⟩
       have HR1 := Lib.hid R1; have HB1 := Lib.hid hb1; clear R1 hb1)
    | (go_at_call 15; refine (FCB.clone_any _ _ _ q _ (HQ.out.below HB1.out) HB0.out m1).mono ?_; rintro e w2 ⟨A2, d2, rfl, hi2, R2, hs2, hno2, hb2⟩
       have HR2 := Lib.hid R2; have HB2 := Lib.hid hb2; clear R2 hb2))
  refine (zjoin_any A1 A2 n d1 m d2 f q _ (HR1.out.below HB2.out) HR2.out n1 m1 (HX.out rfl).2.2.1 (HX.out rfl).2.2.2).mono ?_
  rintro e w3 ⟨rfl, hb3⟩
  have HB3 := Lib.hid hb3
  have HR3 := Lib.hid ((HR1.out.below HB2.out).below hb3)
  clear hb3
  have HSM := Lib.hid (HX.out rfl)
  have HNO : Hid (IRow .u8 w3 none 0 q) := Lib.hid (fun i h => absurd h (Nat.not_lt_zero i))
  have t3 := Lib.hid (HB1.out.trans ((HB2.out.trans (HB3.out.mono HB2.out.size)).mono HB1.out.size))
  cases hA : a.isNone with
  | true =>
    obtain ⟨rfl, rfl⟩ := hno1 hA
    obtain ⟨rfl, rfl⟩ := H0.out (by simpa using hA)
    obtain rfl : k = 0 := by omega
    clear hs1 hno1 hi1 hs2 hno2 hi2 hA
    have tok : True := trivial
    go_wp2_with (first
      | (have _t := tok; go_at_call 16; refine (zjoin_any none none 0 _ 0 _ f q _ HR3.out HNO.out (by omega) (by omega) HSM.out.2.2.1 HSM.out.2.2.2).mono ?_; rintro e w4 ⟨rfl, hb4⟩; have HB4 := Lib.hid hb4; clear hb4 _t tok)
      | (go_at_call 16; refine (zjoin_any none none 0 _ 0 _ f q _ (HR3.out.below HB4.out) (HNO.out.below HB4.out) (by omega) (by omega) HSM.out.2.2.1 HSM.out.2.2.2).mono ?_; rintro e w5 ⟨rfl, hb5⟩; have HB5 := Lib.hid hb5; clear hb5))
    go_ret
    exact ⟨ret_true (joined _ _ _ (by simp [cat])), t3.out.trans ((HB4.out.trans (HB5.out.mono HB4.out.size)).mono t3.out.size)⟩
  | false =>
    obtain ⟨rfl, hd⟩ := hs1 hA
    obtain rfl : n = d1 := hd.symm
    clear hs1 hno1 hi1 hs2 hno2 hi2 hA
    have HL : Hid (SRow w3 (some ⟨w.heap.size, 0, none⟩) k f) := Lib.hid (fun i hi => HR3.out i (by omega))
    have HLL : Hid (∀ j, j ≤ k → (cat f j).length ≤ 1048576) := Lib.hid (fun j hj => HSM.out.2.2.1 j (by omega))
    have HLS : Hid (∀ j, j < k → (f j).size ≤ 1048576) := Lib.hid (fun j hj => HSM.out.2.2.2 j (by omega))
    have HZ : Hid (SRow w3 (some ⟨w.heap.size, 0, none⟩) 0 f) := Lib.hid (fun i hi => absurd hi (Nat.not_lt_zero i))
    have HRR : Hid (SRow w3 (some ⟨w.heap.size, k, none⟩) (n - k) (fun i => f (k + i))) := Lib.hid (fun i hi => by
      obtain ⟨x, hx, hc⟩ := HR3.out (k + i) (by omega)
      injection hx with hx
      subst hx
      refine ⟨_, rfl, ?_⟩
      rw [add_two]; exact hc)
    have HRL : Hid (∀ j, j ≤ n - k → (cat (fun i => f (k + i)) j).length ≤ 1048576) := Lib.hid (fun j hj => by
      have := HSM.out.2.2.1 (k + j) (by omega)
      rw [cat_shift] at this
      simp at this; omega)
    have HRS : Hid (∀ j, j < n - k → (f (k + j)).size ≤ 1048576) := Lib.hid (fun j hj => HSM.out.2.2.2 (k + j) (by omega))
    have HZL : Hid (∀ j, j ≤ 0 → (cat f j).length ≤ 1048576) := Lib.hid (fun j hj => HSM.out.2.2.1 j (by omega))
    have HZS : Hid (∀ j, j < 0 → (f j).size ≤ 1048576) := Lib.hid (fun j hj => absurd hj (Nat.not_lt_zero j))
    have tok : True := trivial
    go_wp2_with (first
      | (have _t := tok; go_at_call 16; refine (zjoin_any _ none k _ 0 _ f q _ HL.out HNO.out (by omega) (by omega) HLL.out HLS.out).mono ?_; rintro e w4 ⟨rfl, hb4⟩; have HB4 := Lib.hid hb4; clear hb4 _t tok))
    · refine (zjoin_any (some ⟨w.heap.size, 0, none⟩) none 0 0 0 0 f q _ (HZ.out.below HB4.out) (HNO.out.below HB4.out) (by omega) (by omega) HZL.out HZS.out).mono ?_
      rintro e w5 ⟨rfl, hb5⟩
      have HB5 := Lib.hid hb5
      have z1 := HLL.out k (Nat.le_refl _)
      have z2 := HZL.out 0 (Nat.le_refl _)
      clear hb5
      go_wp2
      go_ret
      exact ⟨ret_true (joined _ _ _ (by simp [cat])), t3.out.trans ((HB4.out.trans (HB5.out.mono HB4.out.size)).mono t3.out.size)⟩
    · refine (zjoin_any (some ⟨w.heap.size, k, none⟩) none (n - k) (n - k) 0 0 (fun i => f (k + i)) q _ (HRR.out.below HB4.out) (HNO.out.below HB4.out) (by omega) (by omega) HRL.out HRS.out).mono ?_
      rintro e w5 ⟨rfl, hb5⟩
      have HB5 := Lib.hid hb5
      have z1 := HLL.out k (Nat.le_refl _)
      have z2 := HRL.out (n - k) (Nat.le_refl _)
      have HE : Hid (cat f n = cat f k ++ cat (fun i => f (k + i)) (n - k)) := Lib.hid (by have := cat_shift f k (n - k); rwa [Nat.add_sub_cancel' hk] at this)
      clear hb5
      go_wp2
      go_ret
      exact ⟨ret_true (joined _ _ _ HE.out), t3.out.trans ((HB4.out.trans (HB5.out.mono HB4.out.size)).mono t3.out.size)⟩
set_option maxHeartbeats 1000000 in
theorem walk (a0 : Option Addr) (len0 cap0 : Nat) (z0 : List ByteArray) (a1 : Option Addr) (len1 cap1 : Nat) (z1 : List Int) (a2 : Int) (w : World) (w0 : IsStrs w a0 len0 cap0 z0) (w1 : IsRow .u8 w a1 len1 cap1 z1) (w2 : (Lit.int .i64 a2).wf = true) :
    Calls Try.prog 4 #[.slice a0 len0 cap0, .slice a1 len1 cap1, .int .i64 a2] w fun e w' => e = .returned (.bool true) ∧ Below w.heap.size w w' := by
  obtain ⟨r0, q0, s0, b0⟩ := strs_row w0
  obtain ⟨r1, q1, u1, b1⟩ := ints_row w1
  by_cases hx : a2 < 0 ∨ (len0 : Int) < a2
  · exact early a0 a1 len0 cap0 len1 cap1 _ a2 w r0 s0 b0 b1 hx
  · obtain ⟨k, rfl⟩ := Int.eq_ofNat_of_zero_le (show 0 ≤ a2 by omega)
    exact late a0 a1 len0 cap0 len1 cap1 k _ _ w r0 r1 q0 q1 s0 b0 b1 (by omega)

/-! ### THE ROW's STEP: WRITTEN OUT: LEAVE IT -/
set_option maxRecDepth 100000 in
theorem lifted (os : Os) (started : os.Started) (H : Type) (enc : TypeId × Value → H) :
    ReturnsInHanded {} Try.checked os 4 .any (Rows.fnFieldJoinSplitsSpec.pre6 enc Try.prog Try.f4 Rows.fnFieldJoinSplitsRow.domain false) (Rows.fnFieldJoinSplitsSpec.post enc Try.prog Try.f4 false true false false) := by
  refine returnsInHanded_of_change (C := Try.checked) own started (by kernel_rfl) Try.func4
    (ChangeSpec.witness6 (enc := enc) (C := Try.checked) false ⟨#[], #[.slice none 0 0, .slice none 0 0, .int .i64 0], []⟩ 8 (by kernel_rfl) (by kernel_rfl) (by kernel_rfl) (by kernel_rfl)) ?_
  intro W base args ds gs before hval0 hW hcnd _
  have hval : ∀ (j : Nat) t v, Try.f4.params[j]? = some t → args[j]? = some v → Value.okWide Try.prog W .any base t v := hval0
  have hW' := hW
  obtain ⟨p, q, hA0, hV, rfl, hfz, hnd⟩ := hW
  have hA : DataW.TrodAll enc Try.prog W 0 (fun _ => true) true Try.f4.params.toList args.toList ds p := hA0
  rw [Try.params4] at hA hval
  obtain ⟨v0, vs0, d0, ds0, p0, q0, hargs, rfl, rfl, h0, r0⟩ := trodAll_cons hA
  obtain ⟨v1, vs1, d1, ds1, p1, q1, rfl, rfl, rfl, h1, r1⟩ := trodAll_cons r0
  obtain ⟨v2, vs2, d2, ds2, p2, q2, rfl, rfl, rfl, h2, r2⟩ := trodAll_cons r1
  obtain ⟨rfl, rfl, rfl⟩ := trodAll_nil r2
  obtain rfl : args = #[v0, v1, v2] := by cases args; simp_all
  obtain ⟨rfl, rfl⟩ := trodVars_none hV
  obtain ⟨a0, len0, cap0, rfl⟩ := okWide_slice Try.underlying32 (hval 0 32 v0 rfl rfl)
  have k0 := h0
  have lt0 : ∀ x ∈ p0, x.block < W.heap.size := by obtain ⟨m, hm⟩ := k0; exact DataW.trod_lt m _ _ _ hm
  obtain ⟨z0, w0⟩ : ∃ zs, IsStrs W a0 len0 cap0 zs := by
    obtain ⟨fuel, hf⟩ := h0
    rcases open_strings Try.underlying32 Try.underlying9 (by kernel_rfl) hf with ⟨hcs, _⟩ | ⟨x, l, c, zs, hcs, _, hl, hm, hz, _, hcell, hwz⟩
    · simp [Value.cells] at hcs
      obtain ⟨rfl, rfl, rfl⟩ := hcs
      exact ⟨[], .inl ⟨rfl, rfl, rfl, rfl⟩⟩
    · simp [Value.cells] at hcs
      obtain ⟨rfl, rfl, rfl⟩ := hcs
      exact ⟨zs, .inr ⟨_, rfl, hl, hm, by simpa using hz, hcell, hwz⟩⟩
  obtain ⟨a1, len1, cap1, rfl⟩ := okWide_slice Try.underlying33 (hval 1 33 v1 rfl rfl)
  have k1 := h1
  have lt1 : ∀ x ∈ p1, x.block < W.heap.size := by obtain ⟨m, hm⟩ := k1; exact DataW.trod_lt m _ _ _ hm
  obtain ⟨z1, w1⟩ : ∃ zs, IsRow .u8 W a1 len1 cap1 zs := by
    obtain ⟨fuel, hf⟩ := h1
    rcases open_ints Try.underlying33 Try.underlying5 (by kernel_rfl) hf with ⟨hcs, _⟩ | ⟨x, l, c, zs, hcs, _, hl, hm, hz, _, hcell, hwz⟩
    · simp [Value.cells] at hcs
      obtain ⟨rfl, rfl, rfl⟩ := hcs
      exact ⟨[], .inl ⟨rfl, rfl, rfl, rfl⟩⟩
    · simp [Value.cells] at hcs
      obtain ⟨rfl, rfl, rfl⟩ := hcs
      exact ⟨zs, .inr ⟨_, rfl, hl, hm, by simpa using hz, hcell, hwz⟩⟩
  obtain ⟨a2, rfl, rfl, rfl, w2⟩ := open_int Try.underlying3 (hval 2 3 v2 rfl rfl) h2
  clear hA0 hval0
  refine (walk a0 len0 cap0 z0 a1 len1 cap1 z1 a2 W w0 w1 w2).mono fun e W' ⟨he, bel⟩ => ?_
  subst he
  exact ⟨_, rfl, _, _, _, [], _, [], hW', trodAll_mk1 (shut_bool Try.underlying4 _), (trodAll_cons_mk (Below.trod laidOut (by kernel_rfl) (of_decide_eq_true (by kernel_rfl)) k0 bel lt0) (trodAll_cons_mk (Below.trod laidOut (by kernel_rfl) (of_decide_eq_true (by kernel_rfl)) k1 bel lt1) (trodAll_cons_mk (shut_int Try.underlying3 w2) trodAll_mk0))), rfl, bel.frame _, fun h => by cases h⟩

theorem over : Rows.fnFieldJoinSplitsRow.holds Try.pinned (OpenSpec.ofChange Rows.fnFieldJoinSplitsSpec) :=
  OpenClaim.holds_of_wide 4 Try.f4 rfl rfl rfl rfl rfl rfl rfl ⟨rfl, rfl, rfl, rfl, rfl⟩ rfl rfl rfl rfl rfl (by kernel_rfl) Try.func4 (by kernel_rfl)
    (of_decide_eq_true (by kernel_rfl)) (by unfold Func.isWrapper; first | (rw [if_pos (by decide +kernel)]; kernel_rfl) | (rw [if_neg (by decide +kernel)]; exact ⟨rfl, rfl⟩))
    (fun os started H enc _ => lifted os started H enc)

/-- ████ THE STATEMENT ████ -/
theorem proved : Rows.FnFieldJoinSplitsSaid := over
#print axioms proved
end Go.Proofs.Ytijilflnfdgdnaa.fnFieldJoinSplits
