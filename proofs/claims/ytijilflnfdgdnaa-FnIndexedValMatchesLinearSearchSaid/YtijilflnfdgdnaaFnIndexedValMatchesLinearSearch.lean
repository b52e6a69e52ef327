/- Proved here: indexedVal answers as a linear search over the indexes does, or as the position itself where the array is dense (FnIndexedValMatchesLinearSearch returns true). No conditions. -/
import Derived.Test.YtijilflnfdgdnaaRows
import Derived.WalkKit
import Derived.Test.YtijilflnfdgdnaaVal
import Derived.ProofKit
import Derived.OpenShut
import Derived.SliceStrings
import Derived.ShutString
import Derived.ChangeOld
import Derived.Below
namespace Go.Proofs.Ytijilflnfdgdnaa.fnIndexedValMatchesLinearSearch
open Go.ChangeShapes Go.WideShapes Go.ChangeAt Go.RowKit
open Go.ChangeMaps (open_string shut_string)
set_option linter.unusedVariables false

theorem own : ownKnob Try.prog.godebug = none := by kernel_rfl
theorem laidOut : laidOutB Try.prog = true := by kernel_rfl

/-- WHAT THE WALK IS TOLD OF A SLICE OF INTEGERS THAT CAME IN: it is nil; or it leads to a row of 'cap' cells, the numbers 'zs' (the first 'len' are its elements, the rest its spare room), each fitting its kind. -/
def IsRow (k : IntKind) (w : World) (a : Option Addr) (len cap : Nat) (zs : List Int) : Prop :=
  (a = none ∧ len = 0 ∧ cap = 0 ∧ zs = []) ∨
  ∃ x, a = some x ∧ len ≤ cap ∧ cap ≤ maxLen ∧ zs.length = cap ∧ (∀ i, i < zs.length → w.cell? (x.add i) = some (.int k (zs.getD i 0))) ∧ ∀ n ∈ zs, (Lit.int k n).wf = true

/-- WHAT THE WALK IS TOLD OF A SLICE OF STRINGS THAT CAME IN. -/
def IsStrs (w : World) (a : Option Addr) (len cap : Nat) (zs : List ByteArray) : Prop :=
  (a = none ∧ len = 0 ∧ cap = 0 ∧ zs = []) ∨
  ∃ x, a = some x ∧ len ≤ cap ∧ cap ≤ maxLen ∧ zs.length = cap ∧ (∀ i, i < zs.length → w.cell? (x.add i) = some (.string (zs.getD i ByteArray.empty))) ∧ ∀ s ∈ zs, s.size ≤ maxLen

/-! ### STEP 1: THE WALK: the Go text returns true, AND WRITES NOTHING THAT WAS THERE: 'Below w.heap.size w w'' (Derived/Below.lean: '.refl', '.alloc', '.drew', '.setCell' at a new block, '.trans'). Open each 'IsRow' by 'rcases' AHEAD of 'go_enter'; part every test ahead of the walk. -/
set_option maxRecDepth 100000 in
set_option maxHeartbeats 4000000 in
theorem dense_in (a : Option Addr) (n c k : Nat) (f : Nat → ByteArray) (w : World) (hS : SRow w a n f) (h0 : a = none → n = 0 ∧ c = 0) (hs : ∀ i, i < n → (f i).size ≤ 9223372036854775807) (hn : n ≤ 9223372036854775807) (hk : k < n) :
    Calls Try.prog 6 #[.slice a n c, .slice none 0 0, .int .i64 k] w fun e w' => e = .returned (.bool true) ∧ Below w.heap.size w w' := by
  have HS := Lib.hid hS
  have H0 := Lib.hid h0
  have HZ := Lib.hid hs
  clear hS h0 hs
  have q1 := CI.sl_eql
  have q2 := CI.sl_neq
  have k0 : (0 : Int) ≤ (k : Int) := by omega
  have k1 : (k : Int) < (n : Int) := by omega
  have k2 : ¬ (k : Int) < 0 := by omega
  go_enter Try.func6, Try.ntmps6
  go_wp2_with (first
    | (go_at_call 20; refine (bytes_any _ _ _ _ _ _ _ f _ HS.out HZ.out hn (by omega)).mono ?_; rintro e w' ⟨x, rfl, hx, rfl⟩; have HX := Lib.hid hx; clear hx; cases x)
    | (go_at_call 21; refine (strsBytes_any _ _ _ f _ HS.out (HX.out rfl).2.2 (HX.out rfl).1).mono ?_; rintro e w' ⟨r, rfl, hr, rfl⟩)
    | (go_at_call 22; refine (intsBytes_any _ _ _ _ (by omega)).mono ?_; rintro e w' ⟨r2, rfl, hr2, rfl⟩)
    | (go_at_call 24; refine (CS.clone_any _ _ _ f _ HS.out H0.out (HX.out rfl).1).mono ?_; rintro e w1 ⟨A, c', rfl, _, hS1, _, _, hb1⟩
       obtain ⟨y, rfl, hc1⟩ := hS1 k hk
       have HB1 := Lib.hid hb1; clear hS1 hb1)
    | (go_at_call 25; refine (CI.clone_nil _).mono ?_; rintro e w' ⟨rfl, rfl⟩)
    | (go_at_call 26; refine (zval_dense y n c' k (f k) _ (HX.out rfl).1 hk (al hc1 _)).mono ?_; rintro e w2 ⟨rfl, hb2⟩
       have HB2 := Lib.hid hb2; have hc2 := cell_later hb2 (al hc1 _); clear hb2 hc1))
  all_goals
    go_ret
    first
      | exact ⟨rfl, Below.refl _ _⟩
      | exact ⟨by first | rfl | simp, (HB1.out.alloc HB1.out.size _).trans (HB2.out.mono (Nat.le_trans HB1.out.size (by simp)))⟩
set_option maxRecDepth 100000 in
set_option maxHeartbeats 4000000 in
theorem dense_out (a : Option Addr) (n c : Nat) (f : Nat → ByteArray) (i : Int) (w : World) (hS : SRow w a n f) (h0 : a = none → n = 0 ∧ c = 0) (hs : ∀ i, i < n → (f i).size ≤ 9223372036854775807) (hn : n ≤ 9223372036854775807) (hi : (n : Int) ≤ i) :
    Calls Try.prog 6 #[.slice a n c, .slice none 0 0, .int .i64 i] w fun e w' => e = .returned (.bool true) ∧ Below w.heap.size w w' := by
  have HS := Lib.hid hS
  have H0 := Lib.hid h0
  have HZ := Lib.hid hs
  clear hS h0 hs
  have q1 := CI.sl_eql
  have q2 := CI.sl_neq
  have k1 : ¬ i < (n : Int) := by omega
  have k2 : ¬ i < 0 := by omega
  go_enter Try.func6, Try.ntmps6
  go_wp2_with (first
    | (go_at_call 20; refine (bytes_any _ _ _ _ _ _ _ f _ HS.out HZ.out hn (by omega)).mono ?_; rintro e w' ⟨x, rfl, hx, rfl⟩; have HX := Lib.hid hx; clear hx; cases x)
    | (go_at_call 21; refine (strsBytes_any _ _ _ f _ HS.out (HX.out rfl).2.2 (HX.out rfl).1).mono ?_; rintro e w' ⟨r, rfl, hr, rfl⟩)
    | (go_at_call 22; refine (intsBytes_any _ _ _ _ (by omega)).mono ?_; rintro e w' ⟨r2, rfl, hr2, rfl⟩)
    | (go_at_call 24; refine (CS.clone_any _ _ _ f _ HS.out H0.out (HX.out rfl).1).mono ?_; rintro e w1 ⟨A, c', rfl, _, hS1, _, _, hb1⟩
       have HB1 := Lib.hid hb1; clear hS1 hb1)
    | (go_at_call 25; refine (CI.clone_nil _).mono ?_; rintro e w' ⟨rfl, rfl⟩)
    | (go_at_call 26; refine (zval_out A n c' i _ hi).mono ?_; rintro e w2 ⟨rfl, hb2⟩
       have HB2 := Lib.hid hb2; clear hb2))
  all_goals
    go_ret
    first
      | exact ⟨rfl, Below.refl _ _⟩
      | exact ⟨by first | rfl | simp, (HB1.out.alloc HB1.out.size _).trans (HB2.out.mono (Nat.le_trans HB1.out.size (by simp)))⟩
set_option maxRecDepth 100000 in
set_option maxHeartbeats 4000000 in
theorem uneven (a : Option Addr) (n c : Nat) (f : Nat → ByteArray) (x : Addr) (m d : Nat) (g : Nat → Int) (i : Int) (w : World) (hS : SRow w a n f) (h0 : a = none → n = 0 ∧ c = 0) (hs : ∀ i, i < n → (f i).size ≤ 9223372036854775807) (hn : n ≤ 9223372036854775807) (hI : IRow .i64 w (some x) m g) (hm : m ≤ 9223372036854775807) (hne : ¬ m = n) :
    Calls Try.prog 6 #[.slice a n c, .slice (some x) m d, .int .i64 i] w fun e w' => e = .returned (.bool true) ∧ Below w.heap.size w w' := by
  have HS := Lib.hid hS
  have H0 := Lib.hid h0
  have HZ := Lib.hid hs
  have HI := Lib.hid hI
  clear hS h0 hs hI
  have q1 := CI.sl_eql
  have q2 := CI.sl_neq
  have z1 : ((m : Int) != (n : Int)) = true := by simp; omega
  have z2 : (m != n) = true := by simpa using hne
  have z3 : ¬ (m : Int) = (n : Int) := by omega
  go_enter Try.func6, Try.ntmps6
  go_wp2_with (first
    | (go_at_call 20; refine (bytes_any _ _ _ _ _ _ _ f _ HS.out HZ.out hn (by omega)).mono ?_; rintro e w' ⟨x, rfl, hx, rfl⟩; have HX := Lib.hid hx; clear hx; cases x)
    | (go_at_call 21; refine (strsBytes_any _ _ _ f _ HS.out (HX.out rfl).2.2 (HX.out rfl).1).mono ?_; rintro e w' ⟨r, rfl, hr, rfl⟩)
    | (go_at_call 22; refine (intsBytes_any _ _ _ _ (HX.out rfl).2.1).mono ?_; rintro e w' ⟨r2, rfl, hr2, rfl⟩))
  all_goals
    go_ret
    exact ⟨rfl, Below.refl _ _⟩
set_option maxRecDepth 100000 in
set_option maxHeartbeats 4000000 in
theorem unsorted (a : Option Addr) (n c : Nat) (f : Nat → ByteArray) (x : Addr) (d : Nat) (g : Nat → Int) (i : Int) (w : World) (hS : SRow w a n f) (h0 : a = none → n = 0 ∧ c = 0) (hs : ∀ i, i < n → (f i).size ≤ 9223372036854775807) (hn : n ≤ 9223372036854775807) (hI : IRow .i64 w (some x) n g) (j : Nat) (hj : j + 1 < n) (h1 : ∀ i, i < j → g i < g (i + 1)) (h2 : g (j + 1) ≤ g j) :
    Calls Try.prog 6 #[.slice a n c, .slice (some x) n d, .int .i64 i] w fun e w' => e = .returned (.bool true) ∧ Below w.heap.size w w' := by
  have HS := Lib.hid hS
  have H0 := Lib.hid h0
  have HZ := Lib.hid hs
  have HI := Lib.hid hI
  clear hS h0 hs hI
  have q1 := CI.sl_eql
  have q2 := CI.sl_neq
  have HO := Lib.hid h1
  have HT := Lib.hid h2
  clear h1 h2
  go_enter Try.func6, Try.ntmps6
  go_wp2_with (first
    | (go_at_call 20; refine (bytes_any _ _ _ _ _ _ _ f _ HS.out HZ.out hn (by omega)).mono ?_; rintro e w' ⟨x, rfl, hx, rfl⟩; have HX := Lib.hid hx; clear hx; cases x)
    | (go_at_call 21; refine (strsBytes_any _ _ _ f _ HS.out (HX.out rfl).2.2 (HX.out rfl).1).mono ?_; rintro e w' ⟨r, rfl, hr, rfl⟩)
    | (go_at_call 22; refine (intsBytes_any _ _ _ _ (HX.out rfl).2.1).mono ?_; rintro e w' ⟨r2, rfl, hr2, rfl⟩)
    | (go_at_call 23; refine (inc_no _ n _ j g _ HI.out hj HO.out HT.out (HX.out rfl).1).mono ?_; rintro e w' ⟨rfl, q, rfl⟩))
  all_goals
    go_ret
    first
      | exact ⟨rfl, Below.refl _ _⟩
      | exact ⟨rfl, below_drewN (Below.refl _ _) _⟩
/-- the search of the law after k steps: p is the place of what is sought -/
def Seek (n p : Nat) (s : ByteArray) (vs vo vk : Value) : Prop := ∃ k : Nat, k ≤ n ∧ vk = .int .i64 k ∧ ((k ≤ p ∧ vs = .string ⟨#[]⟩ ∧ vo = .bool false) ∨ (p < k ∧ vs = .string s ∧ vo = .bool true))
theorem row_of {w : World} {x : Addr} {n : Nat} {g : Nat → Int} (h : IRow .i64 w (some x) n g) : (0 < n → x.block < w.heap.size) ∧ ∀ i, i < n → w.cell? (x.add i) = some (.int .i64 (g i)) := by
  have hc : ∀ i, i < n → w.cell? (x.add i) = some (.int .i64 (g i)) := fun i hi => by
    obtain ⟨y, hy, hc⟩ := h i hi
    injection hy with hy
    rw [hy]; exact hc
  refine ⟨fun hn => ?_, hc⟩
  have := World.block_lt_of_cell? w _ (hc 0 hn)
  rwa [add_block] at this
theorem below_all {w w1 w2 w3 : World} (q : Nat) (o : Obj) (h1 : Below (w.drewN q).heap.size (w.drewN q) w1) (h2 : Below w1.heap.size w1 w2) (h3 : Below (w2.alloc o).heap.size (w2.alloc o) w3) : Below w.heap.size w w3 := by
  have t1 : Below w.heap.size w w1 := (below_drewN (Below.refl w.heap.size w) q).trans h1
  have t2 := t1.trans (h2.mono t1.size)
  exact (t2.alloc t2.size o).trans (h3.mono (Nat.le_trans t2.size (by simp)))
set_option maxRecDepth 100000 in
set_option maxHeartbeats 4000000 in
theorem sparse_hit (a : Option Addr) (n c : Nat) (f : Nat → ByteArray) (x : Addr) (d p : Nat) (g : Nat → Int) (i : Int) (w : World) (hS : SRow w a n f) (h0 : a = none → n = 0 ∧ c = 0) (hs : ∀ i, i < n → (f i).size ≤ 9223372036854775807) (hn : n ≤ 9223372036854775807) (hI : IRow .i64 w (some x) n g) (hinc : Inc n g) (hp : p < n) (hg : g p = i) :
    Calls Try.prog 6 #[.slice a n c, .slice (some x) n d, .int .i64 i] w fun e w' => e = .returned (.bool true) ∧ Below w.heap.size w w' := by
  have HS := Lib.hid hS
  have H0 := Lib.hid h0
  have HZ := Lib.hid hs
  have HI := Lib.hid hI
  clear hS h0 hs hI
  have q1 := CI.sl_eql
  have q2 := CI.sl_neq
  have HO := Lib.hid hinc
  have HG := Lib.hid hg
  clear hinc hg
  go_enter Try.func6, Try.ntmps6
  go_upto_region 20 with (first
    | (go_at_call 20; refine (bytes_any _ _ _ _ _ _ _ f _ HS.out HZ.out hn (by omega)).mono ?_; rintro e w' ⟨x, rfl, hx, rfl⟩; have HX := Lib.hid hx; clear hx; cases x)
    | (go_at_call 21; refine (strsBytes_any _ _ _ f _ HS.out (HX.out rfl).2.2 (HX.out rfl).1).mono ?_; rintro e w' ⟨r, rfl, hr, rfl⟩)
    | (go_at_call 22; refine (intsBytes_any _ _ _ _ (HX.out rfl).2.1).mono ?_; rintro e w' ⟨r2, rfl, hr2, rfl⟩)
    | (go_at_call 23; refine (inc_yes _ n _ g _ HI.out HO.out (HX.out rfl).1).mono ?_; rintro e w' ⟨rfl, q, rfl⟩)
    | (go_at_call 24; refine (CS.clone_any _ _ _ f _ (HS.out.heap rfl : SRow (w.drewN q) _ _ _) H0.out (HX.out rfl).1).mono ?_; rintro e w1 ⟨A, c', rfl, _, hS1, _, _, hb1⟩
       obtain ⟨y, rfl, hc1⟩ := hS1 p hp
       have HC1 := Lib.hid hc1
       have HB1 := Lib.hid hb1; clear hS1 hb1 hc1)
    | (go_at_call 25; refine (CI.clone_row x n _ g _ (row_of ((HI.out.heap rfl : IRow .i64 (w.drewN q) _ _ _).below HB1.out)).1 (row_of ((HI.out.heap rfl : IRow .i64 (w.drewN q) _ _ _).below HB1.out)).2 (HX.out rfl).1).mono ?_; rintro e w2 ⟨rfl, _, hI2, hb2⟩
       have HC2 := Lib.hid (cell_later hb2 HC1.out)
       have HI2 := Lib.hid hI2
       have HB2 := Lib.hid hb2; clear hI2 hb2)
    | (go_at_call 26; refine (zval_hit y _ n c' p _ g i (f p) _ (HX.out rfl).1 hp (al HC2.out _) (fun i h => al (HI2.out i h) _) HO.out.lt HG.out).mono ?_; rintro e w3 ⟨rfl, hb3⟩
       have HC3 := Lib.hid (cell_later hb3 (al HC2.out _))
       have HI3 := Lib.hid (fun i (h : i < n) => cell_later hb3 (al (HI2.out i h) _))
       have HB3 := Lib.hid hb3; clear hb3))
  all_goals try (go_ret; exact ⟨rfl, Below.refl _ _⟩)
  generalize decide (1048576 < (r : Int) + (r2 : Int)) = bz at *
  have HB := Lib.hid (below_all q _ HB1.out HB2.out HB3.out)
  generalize w1.heap.size = b at *
  clear HB1 HB2 HB3 HC1 HC2 HI2 HS HI HZ H0 hr hr2
  have hn' := (HX.out rfl).1
  go_wp2
  go_loop [10, 11, 12] (fun vs vo vk => Seek n p (f p) vs vo vk) (fun _ _ vk => n - (intOf vk).toNat)
  case atStart => exact ⟨0, Nat.zero_le _, rfl, .inl ⟨Nat.zero_le _, rfl, rfl⟩⟩
  case round =>
    obtain ⟨k, hk, rfl, hor⟩ := hrel
    by_cases hlt : k < n
    · have hci := HI3.out k hlt
      have i0 : (0 : Int) ≤ (k : Int) := by omega
      have i1 : (k : Int) < (n : Int) := by omega
      by_cases hkp : k = p
      · subst hkp
        rcases hor with ⟨_, rfl, rfl⟩ | ⟨h, _, _⟩
        · rw [HG.out] at hci
          have hcl := HC3.out
          go_wp2
          go_round
          case rel => exact ⟨k + 1, by omega, by go_num, .inr ⟨by omega, rfl, rfl⟩⟩
          case measure => simp [intOf]; omega
        · omega
      · have hne : (g k == i) = false := by
          rw [beq_eq_false_iff_ne, ← HG.out]
          rcases Nat.lt_or_ge k p with h | h
          · have := HO.out.lt k p h hp; omega
          · have := HO.out.lt p k (by omega) hlt; omega
        rcases hor with ⟨h, rfl, rfl⟩ | ⟨h, rfl, rfl⟩
        · go_wp2
          go_round
          case rel => exact ⟨k + 1, by omega, by go_num, .inl ⟨by omega, rfl, rfl⟩⟩
          case measure => simp [intOf]; omega
        · go_wp2
          go_round
          case rel => exact ⟨k + 1, by omega, by go_num, .inr ⟨by omega, rfl, rfl⟩⟩
          case measure => simp [intOf]; omega
    · rcases hor with ⟨h, _, _⟩ | ⟨_, rfl, rfl⟩
      · omega
      · go_wp2
        go_ret
        exact ⟨by first | rfl | simp, HB.out⟩
theorem own_lt {w' : World} {b0 b n : Nat} {t : TypeId} {xs : List Value} (h : w'.ownsRow b0 t 1 (.slice (some ⟨b, 0, none⟩) n n) n xs) : b < w'.heap.size := by
  rcases h.2 with ⟨h, _⟩ | ⟨g, cap, cur, hv, _, hh, _⟩
  · cases h
  · injection hv with h1
    injection h1 with h1
    injection h1 with h1
    subst h1
    rcases Nat.lt_or_ge b w'.heap.size with hlt | hge
    · exact hlt
    · rw [Array.getElem?_eq_none hge] at hh; cases hh
set_option maxRecDepth 100000 in
set_option maxHeartbeats 4000000 in
theorem sparse_miss (a : Option Addr) (n c : Nat) (f : Nat → ByteArray) (x : Addr) (d : Nat) (g : Nat → Int) (i : Int) (w : World) (hS : SRow w a n f) (h0 : a = none → n = 0 ∧ c = 0) (hs : ∀ i, i < n → (f i).size ≤ 9223372036854775807) (hn : n ≤ 9223372036854775807) (hI : IRow .i64 w (some x) n g) (hinc : Inc n g) (hg : ∀ j, j < n → ¬ g j = i) :
    Calls Try.prog 6 #[.slice a n c, .slice (some x) n d, .int .i64 i] w fun e w' => e = .returned (.bool true) ∧ Below w.heap.size w w' := by
  have HS := Lib.hid hS
  have H0 := Lib.hid h0
  have HZ := Lib.hid hs
  have HI := Lib.hid hI
  clear hS h0 hs hI
  have q1 := CI.sl_eql
  have q2 := CI.sl_neq
  have HO := Lib.hid hinc
  have HG := Lib.hid hg
  clear hinc hg
  go_enter Try.func6, Try.ntmps6
  go_upto_region 20 with (first
    | (go_at_call 20; refine (bytes_any _ _ _ _ _ _ _ f _ HS.out HZ.out hn (by omega)).mono ?_; rintro e w' ⟨x, rfl, hx, rfl⟩; have HX := Lib.hid hx; clear hx; cases x)
    | (go_at_call 21; refine (strsBytes_any _ _ _ f _ HS.out (HX.out rfl).2.2 (HX.out rfl).1).mono ?_; rintro e w' ⟨r, rfl, hr, rfl⟩)
    | (go_at_call 22; refine (intsBytes_any _ _ _ _ (HX.out rfl).2.1).mono ?_; rintro e w' ⟨r2, rfl, hr2, rfl⟩)
    | (go_at_call 23; refine (inc_yes _ n _ g _ HI.out HO.out (HX.out rfl).1).mono ?_; rintro e w' ⟨rfl, q, rfl⟩)
    | (go_at_call 24; refine (CS.clone_any _ _ _ f _ (HS.out.heap rfl : SRow (w.drewN q) _ _ _) H0.out (HX.out rfl).1).mono ?_; rintro e w1 ⟨A, c', rfl, _, hS1, _, _, hb1⟩
       have HB1 := Lib.hid hb1; clear hS1 hb1)
    | (go_at_call 25; refine (CI.clone_row x n _ g _ (row_of ((HI.out.heap rfl : IRow .i64 (w.drewN q) _ _ _).below HB1.out)).1 (row_of ((HI.out.heap rfl : IRow .i64 (w.drewN q) _ _ _).below HB1.out)).2 (HX.out rfl).1).mono ?_; rintro e w2 ⟨rfl, hown2, hI2, hb2⟩; have hnew := own_lt hown2; clear hown2
       have HI2 := Lib.hid hI2
       have HB2 := Lib.hid hb2; clear hI2 hb2)
    | (go_at_call 26; refine (zval_miss A _ n c' _ n g i _ (HX.out rfl).1 (Nat.lt_of_lt_of_le hnew (by simp)) (fun i h => al (HI2.out i h) _) HO.out.lt HG.out).mono ?_; rintro e w3 ⟨rfl, hb3⟩
       have HI3 := Lib.hid (fun i (h : i < n) => cell_later hb3 (al (HI2.out i h) _))
       have HB3 := Lib.hid hb3; clear hb3))
  all_goals try (go_ret; exact ⟨rfl, Below.refl _ _⟩)
  generalize decide (1048576 < (r : Int) + (r2 : Int)) = bz at *
  have HB := Lib.hid (below_all q _ HB1.out HB2.out HB3.out)
  generalize w1.heap.size = b at *
  clear HB1 HB2 HB3 HI2 hnew HS HI HZ H0 hr hr2
  have hn' := (HX.out rfl).1
  go_wp2
  go_loop [10, 11, 12] (fun vs vo vk => ∃ k : Nat, k ≤ n ∧ vk = .int .i64 k ∧ vs = .string ⟨#[]⟩ ∧ vo = .bool false) (fun _ _ vk => n - (intOf vk).toNat)
  case atStart => exact ⟨0, Nat.zero_le _, rfl, rfl, rfl⟩
  case round =>
    obtain ⟨k, hk, rfl, rfl, rfl⟩ := hrel
    by_cases hlt : k < n
    · have hci := HI3.out k hlt
      have i0 : (0 : Int) ≤ (k : Int) := by omega
      have i1 : (k : Int) < (n : Int) := by omega
      have hne : (g k == i) = false := beq_eq_false_iff_ne.2 (HG.out k hlt)
      go_wp2
      go_round
      case rel => exact ⟨k + 1, by omega, by go_num, rfl, rfl⟩
      case measure => simp [intOf]; omega
    · go_wp2
      go_ret
      exact ⟨by first | rfl | simp, HB.out⟩
theorem strs_row {w : World} {a : Option Addr} {n c : Nat} {z : List ByteArray} (h : IsStrs w a n c z) :
    SRow w a n (fun i => z.getD i ByteArray.empty) ∧ (a = none → n = 0 ∧ c = 0) ∧ (∀ i, i < n → (z.getD i ByteArray.empty).size ≤ 9223372036854775807) ∧ n ≤ 9223372036854775807 := by
  rcases h with ⟨rfl, rfl, rfl, rfl⟩ | ⟨x, rfl, hl, hm, hz, hcell, hsz⟩
  · exact ⟨fun i h => by omega, fun _ => ⟨rfl, rfl⟩, fun i h => by omega, by omega⟩
  · unfold maxLen at hm hsz
    refine ⟨fun i h => ⟨x, rfl, hcell i (by omega)⟩, (fun h => by cases h), fun i h => ?_, by omega⟩
    rw [List.getD_eq_getElem?_getD, List.getElem?_eq_getElem (by omega)]
    exact hsz _ (List.getElem_mem _)
theorem ints_row {w : World} {a : Option Addr} {n c : Nat} {z : List Int} (h : IsRow .i64 w a n c z) :
    IRow .i64 w a n (fun i => z.getD i 0) ∧ (a = none → n = 0 ∧ c = 0) ∧ n ≤ 9223372036854775807 := by
  rcases h with ⟨rfl, rfl, rfl, rfl⟩ | ⟨x, rfl, hl, hm, hz, hcell, hsz⟩
  · exact ⟨fun i h => by omega, fun _ => ⟨rfl, rfl⟩, by omega⟩
  · unfold maxLen at hm
    exact ⟨fun i h => ⟨x, rfl, hcell i (by omega)⟩, (fun h => by cases h), by omega⟩
set_option maxRecDepth 100000 in
set_option maxHeartbeats 1000000 in
theorem negative (a : Option Addr) (n c : Nat) (f : Nat → ByteArray) (i : Int) (w : World) (hS : SRow w a n f) (hs : ∀ i, i < n → (f i).size ≤ 9223372036854775807) (hn : n ≤ 9223372036854775807) (hi : i < 0) :
    Calls Try.prog 6 #[.slice a n c, .slice none 0 0, .int .i64 i] w fun e w' => e = .returned (.bool true) ∧ Below w.heap.size w w' := by
  have HS := Lib.hid hS
  have HZ := Lib.hid hs
  clear hS hs
  have q2 := CI.sl_neq
  go_enter Try.func6, Try.ntmps6
  go_wp2_with (first
    | (go_at_call 20; refine (bytes_any _ _ _ _ _ _ _ f _ HS.out HZ.out hn (by omega)).mono ?_; rintro e w' ⟨x, rfl, hx, rfl⟩; have HX := Lib.hid hx; clear hx; cases x)
    | (go_at_call 21; refine (strsBytes_any _ _ _ f _ HS.out (HX.out rfl).2.2 (HX.out rfl).1).mono ?_; rintro e w' ⟨r, rfl, hr, rfl⟩)
    | (go_at_call 22; refine (intsBytes_any _ _ _ _ (by omega)).mono ?_; rintro e w' ⟨r2, rfl, hr2, rfl⟩))
  all_goals
    go_ret
    exact ⟨rfl, Below.refl _ _⟩
theorem walk (a0 : Option Addr) (len0 cap0 : Nat) (z0 : List ByteArray) (a1 : Option Addr) (len1 cap1 : Nat) (z1 : List Int) (a2 : Int) (w : World) (w0 : IsStrs w a0 len0 cap0 z0) (w1 : IsRow .i64 w a1 len1 cap1 z1) (w2 : (Lit.int .i64 a2).wf = true) :
    Calls Try.prog 6 #[.slice a0 len0 cap0, .slice a1 len1 cap1, .int .i64 a2] w fun e w' => e = .returned (.bool true) ∧ Below w.heap.size w w' := by
  have b2 := bounds_i64 w2
  obtain ⟨hS, h0, hs, hn⟩ := strs_row w0
  obtain ⟨hI, h1, hm⟩ := ints_row w1
  clear w0 w1 w2
  cases a1 with
  | none =>
    obtain ⟨rfl, rfl⟩ := h1 rfl
    by_cases hi : a2 < 0
    · exact negative a0 len0 cap0 _ a2 w hS hs hn hi
    by_cases hk : a2 < (len0 : Int)
    · obtain ⟨k, rfl⟩ := Int.eq_ofNat_of_zero_le (show 0 ≤ a2 by omega)
      exact dense_in a0 len0 cap0 k _ w hS h0 hs hn (by omega)
    · exact dense_out a0 len0 cap0 _ a2 w hS h0 hs hn (by omega)
  | some x =>
    by_cases hne : len1 = len0
    · subst hne
      rcases inc_or (fun i => z1.getD i 0) len1 with hinc | ⟨j, hj, g1, g2⟩
      · by_cases hp : ∃ p, p < len1 ∧ z1.getD p 0 = a2
        · obtain ⟨p, hp, hg⟩ := hp
          exact sparse_hit a0 len1 cap0 _ x cap1 p _ a2 w hS h0 hs hn hI hinc hp hg
        · exact sparse_miss a0 len1 cap0 _ x cap1 _ a2 w hS h0 hs hn hI hinc (fun j hj hg => hp ⟨j, hj, hg⟩)
      · exact unsorted a0 len1 cap0 _ x cap1 _ a2 w hS h0 hs hn hI j hj g1 g2
    · exact uneven a0 len0 cap0 _ x len1 cap1 _ a2 w hS h0 hs hn hI hm hne

/-! ### THE ROW's STEP: WRITTEN OUT: LEAVE IT -/
set_option maxRecDepth 100000 in
theorem lifted (os : Os) (started : os.Started) (H : Type) (enc : TypeId × Value → H) :
    ReturnsInHanded {} Try.checked os 6 .any (Rows.fnIndexedValMatchesLinearSearchSpec.pre6 enc Try.prog Try.f6 Rows.fnIndexedValMatchesLinearSearchRow.domain false) (Rows.fnIndexedValMatchesLinearSearchSpec.post enc Try.prog Try.f6 false true false false) := by
  refine returnsInHanded_of_change (C := Try.checked) own started (by kernel_rfl) Try.func6
    (ChangeSpec.witness6 (enc := enc) (C := Try.checked) false ⟨#[], #[.slice none 0 0, .slice none 0 0, .int .i64 0], []⟩ 8 (by kernel_rfl) (by kernel_rfl) (by kernel_rfl) (by kernel_rfl)) ?_
  intro W base args ds gs before hval0 hW hcnd _
  have hval : ∀ (j : Nat) t v, Try.f6.params[j]? = some t → args[j]? = some v → Value.okWide Try.prog W .any base t v := hval0
  have hW' := hW
  obtain ⟨p, q, hA0, hV, rfl, hfz, hnd⟩ := hW
  have hA : DataW.TrodAll enc Try.prog W 0 (fun _ => true) true Try.f6.params.toList args.toList ds p := hA0
  rw [Try.params6] at hA hval
  obtain ⟨v0, vs0, d0, ds0, p0, q0, hargs, rfl, rfl, h0, r0⟩ := trodAll_cons hA
  obtain ⟨v1, vs1, d1, ds1, p1, q1, rfl, rfl, rfl, h1, r1⟩ := trodAll_cons r0
  obtain ⟨v2, vs2, d2, ds2, p2, q2, rfl, rfl, rfl, h2, r2⟩ := trodAll_cons r1
  obtain ⟨rfl, rfl, rfl⟩ := trodAll_nil r2
  obtain rfl : args = #[v0, v1, v2] := by cases args; simp_all
  obtain ⟨rfl, rfl⟩ := trodVars_none hV
  obtain ⟨a0, len0, cap0, rfl⟩ := okWide_slice Try.underlying32 (hval 0 32 v0 rfl rfl)
  have k0 := h0
  have lt0 : ∀ x ∈ p0, x.block < W.heap.size := by obtain ⟨m, hm⟩ := k0; exact DataW.trod_lt m _ _ _ hm
  obtain ⟨z0, w0⟩ : ∃ zs, IsStrs W a0 len0 cap0 zs := by
    obtain ⟨fuel, hf⟩ := h0
    rcases open_strings Try.underlying32 Try.underlying9 (by kernel_rfl) hf with ⟨hcs, _⟩ | ⟨x, l, c, zs, hcs, _, hl, hm, hz, _, hcell, hwz⟩
    · simp [Value.cells] at hcs
      obtain ⟨rfl, rfl, rfl⟩ := hcs
      exact ⟨[], .inl ⟨rfl, rfl, rfl, rfl⟩⟩
    · simp [Value.cells] at hcs
      obtain ⟨rfl, rfl, rfl⟩ := hcs
      exact ⟨zs, .inr ⟨_, rfl, hl, hm, by simpa using hz, hcell, hwz⟩⟩
  obtain ⟨a1, len1, cap1, rfl⟩ := okWide_slice Try.underlying44 (hval 1 44 v1 rfl rfl)
  have k1 := h1
  have lt1 : ∀ x ∈ p1, x.block < W.heap.size := by obtain ⟨m, hm⟩ := k1; exact DataW.trod_lt m _ _ _ hm
  obtain ⟨z1, w1⟩ : ∃ zs, IsRow .i64 W a1 len1 cap1 zs := by
    obtain ⟨fuel, hf⟩ := h1
    rcases open_ints Try.underlying44 Try.underlying3 (by kernel_rfl) hf with ⟨hcs, _⟩ | ⟨x, l, c, zs, hcs, _, hl, hm, hz, _, hcell, hwz⟩
    · simp [Value.cells] at hcs
      obtain ⟨rfl, rfl, rfl⟩ := hcs
      exact ⟨[], .inl ⟨rfl, rfl, rfl, rfl⟩⟩
    · simp [Value.cells] at hcs
      obtain ⟨rfl, rfl, rfl⟩ := hcs
      exact ⟨zs, .inr ⟨_, rfl, hl, hm, by simpa using hz, hcell, hwz⟩⟩
  obtain ⟨a2, rfl, rfl, rfl, w2⟩ := open_int Try.underlying3 (hval 2 3 v2 rfl rfl) h2
  clear hA0 hval0
  refine (walk a0 len0 cap0 z0 a1 len1 cap1 z1 a2 W w0 w1 w2).mono fun e W' ⟨he, bel⟩ => ?_
  subst he
  exact ⟨_, rfl, _, _, _, [], _, [], hW', trodAll_mk1 (shut_bool Try.underlying4 _), (trodAll_cons_mk (Below.trod laidOut (by kernel_rfl) (of_decide_eq_true (by kernel_rfl)) k0 bel lt0) (trodAll_cons_mk (Below.trod laidOut (by kernel_rfl) (of_decide_eq_true (by kernel_rfl)) k1 bel lt1) (trodAll_cons_mk (shut_int Try.underlying3 w2) trodAll_mk0))), rfl, bel.frame _, fun h => by cases h⟩

theorem over : Rows.fnIndexedValMatchesLinearSearchRow.holds Try.pinned (OpenSpec.ofChange Rows.fnIndexedValMatchesLinearSearchSpec) :=
  OpenClaim.holds_of_wide 6 Try.f6 rfl rfl rfl rfl rfl rfl rfl ⟨rfl, rfl, rfl, rfl, rfl⟩ rfl rfl rfl rfl rfl (by kernel_rfl) Try.func6 (by kernel_rfl)
    (of_decide_eq_true (by kernel_rfl)) (by unfold Func.isWrapper; first | (rw [if_pos (by decide +kernel)]; kernel_rfl) | (rw [if_neg (by decide +kernel)]; exact ⟨rfl, rfl⟩))
    (fun os started H enc _ => lifted os started H enc)

/-- ████ THE STATEMENT ████ -/
theorem proved : Rows.FnIndexedValMatchesLinearSearchSaid := over
#print axioms proved
end Go.Proofs.Ytijilflnfdgdnaa.fnIndexedValMatchesLinearSearch
