/- The contracts of indexedVal and String at the Variables that FnStringModel builds, and of the tests that the law calls. Conditions: the cells and lengths that each contract names. -/
import Derived.Test.YthfjbbeecoeenaaBS
import Derived.Test.YthfjbbeecoeenaaCloneS
import Derived.Test.YthfjbbeecoeenaaCloneI
import Derived.Outline
import Derived.Deep.DeepCutAuto
import Derived.Deep.QuietTactic
import Derived.BigQuiet
import Derived.IntWalk
namespace Go.Proofs.Ythfjbbeecoeenaa
open Go.RowKit

theorem al {w : World} {a : Addr} {v : Value} (h : w.cell? a = some v) (o : Obj) : (w.alloc o).cell? a = some v := (World.cell?_alloc_lt w o a (World.block_lt_of_cell? w _ h)).trans h
theorem bal {w W : World} (h : Below w.heap.size w W) (o : Obj) : Below w.heap.size w (W.alloc o) := h.alloc h.size o
abbrev varV (b0 b1 b2 b3 : Bool) (kd : Int) (st : ByteArray) (L I : Value) : Value := .agg #[.bool b0, .bool b1, .bool b2, .bool b3, .int .u8 kd, .string st, L, .map none, I]
abbrev varC (b0 b1 b2 b3 : Bool) (kd : Int) (st : ByteArray) (L I : Value) : Obj := .cells #[.bool b0, .bool b1, .bool b2, .bool b3, .int .u8 kd, .string st, L, .map none, I] 27
/-- a string and a bool are returned; nothing old has turned -/
def Pair (s : ByteArray) (x : Bool) (w : World) (e : Ending) (w' : World) : Prop := e = .returned (.tuple #[.string s, .bool x]) ∧ Below w.heap.size w w'
set_option maxRecDepth 100000 in
set_option maxHeartbeats 2000000 in
theorem val_dense (b0 b1 b2 b3 : Bool) (kd : Int) (st : ByteArray) (x : Addr) (n c k : Nat) (s : ByteArray) (w : World) (_hn : n ≤ 1048576) (hk : k < n) (hc : w.cell? (x.add k) = some (.string s)) :
    Calls Try.prog 27 #[varV b0 b1 b2 b3 kd st (.slice (some x) n c) (.slice none 0 0), .int .i64 k] w (Pair s true w) := by
  have q1 := CI.sl_neq
  have hb := World.block_lt_of_cell? w _ hc
  have i0 : (0 : Int) ≤ (k : Int) := by omega
  have i1 : (k : Int) < (n : Int) := by omega
  have hc' : (w.alloc (.cells #[.bool b0, .bool b1, .bool b2, .bool b3, .int .u8 kd, .string st, .slice (some x) n c, .map none, .slice none 0 0] 27)).cell? (x.add k) = some (.string s) := (World.cell?_alloc_lt w _ _ hb).trans hc
  clear hb hc
  go_enter Try.func27, Try.ntmps27
  go_wp2
  go_ret2
  exact ⟨rfl, by repeat (first | exact Below.refl _ _ | apply Below.drew | apply bal)⟩
set_option maxRecDepth 100000 in
set_option maxHeartbeats 2000000 in
theorem val_out (b0 b1 b2 b3 : Bool) (kd : Int) (st : ByteArray) (A : Option Addr) (n c : Nat) (i : Int) (w : World) (hi : (n : Int) ≤ i) :
    Calls Try.prog 27 #[varV b0 b1 b2 b3 kd st (.slice A n c) (.slice none 0 0), .int .i64 i] w (Pair ⟨#[]⟩ false w) := by
  have q1 := CI.sl_neq
  have i1 : ¬ i < (n : Int) := by omega
  go_enter Try.func27, Try.ntmps27
  go_wp2
  go_ret2
  exact ⟨rfl, by repeat (first | exact Below.refl _ _ | apply Below.drew | apply bal)⟩
set_option maxRecDepth 100000 in
set_option maxHeartbeats 2000000 in
theorem val_hit (b0 b1 b2 b3 : Bool) (kd : Int) (st : ByteArray) (x : Addr) (b n c p m : Nat) (f : Nat → Int) (t : Int) (s : ByteArray) (w : World) (hn : n ≤ 1048576) (hp : p < n) (hc : w.cell? (x.add p) = some (.string s)) (hI : ∀ i, i < n → w.cell? ⟨b, i, none⟩ = some (.int .i64 (f i))) (hs : ∀ i j, i < j → j < n → f i < f j) (hf : f p = t) :
    Calls Try.prog 27 #[varV b0 b1 b2 b3 kd st (.slice (some x) n c) (.slice (some ⟨b, 0, none⟩) n m), .int .i64 t] w (Pair s true w) := by
  have q1 := CI.sl_neq
  have hb := World.block_lt_of_cell? w _ hc
  have hbb := World.block_lt_of_cell? w _ (hI p hp)
  have i0 : (0 : Int) ≤ (p : Int) := by omega
  have i1 : (p : Int) < (n : Int) := by omega
  have hc' : (w.alloc (.cells #[.bool b0, .bool b1, .bool b2, .bool b3, .int .u8 kd, .string st, .slice (some x) n c, .map none, .slice (some ⟨b, 0, none⟩) n m] 27)).cell? (x.add p) = some (.string s) := (World.cell?_alloc_lt w _ _ hb).trans hc
  have HI := Lib.hid (fun i (h : i < n) => (World.cell?_alloc_lt w (.cells #[.bool b0, .bool b1, .bool b2, .bool b3, .int .u8 kd, .string st, .slice (some x) n c, .map none, .slice (some ⟨b, 0, none⟩) n m] 27) ⟨b, i, none⟩ hbb).trans (hI i h))
  have HS := Lib.hid hs
  have HF := Lib.hid hf
  clear hb hbb hc hI hs hf
  go_enter Try.func27, Try.ntmps27
  go_wp2_with (go_at_call 32; refine (BS.hit b n m p f t _ HI.out HS.out hn hp HF.out).mono ?_; rintro e w' ⟨rfl, rfl⟩)
  go_ret2
  exact ⟨rfl, by repeat (first | exact Below.refl _ _ | apply Below.drew | apply bal)⟩
set_option maxRecDepth 100000 in
set_option maxHeartbeats 2000000 in
theorem val_miss (b0 b1 b2 b3 : Bool) (kd : Int) (st : ByteArray) (A : Option Addr) (b n c d m : Nat) (f : Nat → Int) (t : Int) (w : World) (hn : m ≤ 1048576) (hb : b < w.heap.size) (hI : ∀ i, i < m → w.cell? ⟨b, i, none⟩ = some (.int .i64 (f i))) (hs : ∀ i j, i < j → j < m → f i < f j) (hf : ∀ i, i < m → ¬ f i = t) :
    Calls Try.prog 27 #[varV b0 b1 b2 b3 kd st (.slice A n c) (.slice (some ⟨b, 0, none⟩) m d), .int .i64 t] w (Pair ⟨#[]⟩ false w) := by
  have q1 := CI.sl_neq
  have HI := Lib.hid (fun i (h : i < m) => (World.cell?_alloc_lt w (.cells #[.bool b0, .bool b1, .bool b2, .bool b3, .int .u8 kd, .string st, .slice A n c, .map none, .slice (some ⟨b, 0, none⟩) m d] 27) ⟨b, i, none⟩ hb).trans (hI i h))
  have HS := Lib.hid hs
  have HF := Lib.hid hf
  clear hb hI hs hf
  go_enter Try.func27, Try.ntmps27
  go_wp2_with (go_at_call 32; refine (BS.miss b m d f t _ HI.out HS.out hn HF.out).mono ?_; rintro e w' ⟨ix, rfl, rfl⟩)
  go_ret2
  exact ⟨rfl, by repeat (first | exact Below.refl _ _ | apply Below.drew | apply bal)⟩
set_option maxRecDepth 100000 in
set_option maxHeartbeats 2000000 in
theorem str_one (b0 b1 b2 b3 : Bool) (kd : Int) (st : ByteArray) (L I : Value) (w : World) (k1 : (kd == 1) = true)  :
    Calls Try.prog 10 #[varV b0 b1 b2 b3 kd st L I] w fun e w' => e = .returned (.string st) ∧ Below w.heap.size w w' := by
  go_enter Try.func10, Try.ntmps10
  go_wp2
  go_ret
  exact ⟨rfl, by repeat (first | exact Below.refl _ _ | apply Below.drew | apply bal)⟩
set_option maxRecDepth 100000 in
set_option maxHeartbeats 2000000 in
theorem str_else (b0 b1 b2 b3 : Bool) (kd : Int) (st : ByteArray) (L I : Value) (w : World) (k1 : (kd == 1) = false) (k3 : (kd == 3) = false) (k4 : (kd == 4) = false ∨ (kd == 4) = true)  :
    Calls Try.prog 10 #[varV b0 b1 b2 b3 kd st L I] w fun e w' => e = .returned (.string ⟨#[]⟩) ∧ Below w.heap.size w w' := by
  go_enter Try.func10, Try.ntmps10
  rcases k4 with k4 | k4
  all_goals go_wp2
  all_goals (go_ret; exact ⟨rfl, by repeat (first | exact Below.refl _ _ | apply Below.drew | apply bal)⟩)
set_option maxRecDepth 100000 in
set_option maxHeartbeats 2000000 in
theorem str_dense (b0 b1 b2 b3 : Bool) (kd : Int) (st : ByteArray) (x : Addr) (n c : Nat) (s : ByteArray) (w : World) (k1 : (kd == 1) = false) (k3 : (kd == 3) = true) (hn : n ≤ 1048576) (hk : 0 < n) (hc : w.cell? (x.add 0) = some (.string s)) :
    Calls Try.prog 10 #[varV b0 b1 b2 b3 kd st (.slice (some x) n c) (.slice none 0 0)] w fun e w' => e = .returned (.string s) ∧ Below w.heap.size w w' := by
  have Hhn := Lib.hid hn
  have Hhk := Lib.hid hk
  have Hhc := Lib.hid hc
  clear hn hk hc
  go_enter Try.func10, Try.ntmps10
  go_wp2_with (go_at_call 27; refine (val_dense b0 b1 b2 b3 kd st x n c 0 s _ Hhn.out Hhk.out (al Hhc.out _)).mono ?_; rintro e w' ⟨rfl, hq⟩; have HQ := Lib.hid hq; clear hq)
  go_ret
  exact ⟨rfl, ((Below.refl _ _).alloc (Nat.le_refl _) _).trans (HQ.out.mono (by simp))⟩
set_option maxRecDepth 100000 in
set_option maxHeartbeats 2000000 in
theorem str_none (b0 b1 b2 b3 : Bool) (kd : Int) (st : ByteArray) (A : Option Addr) (n c : Nat) (w : World) (k1 : (kd == 1) = false) (k3 : (kd == 3) = true) (hz : n ≤ 0) :
    Calls Try.prog 10 #[varV b0 b1 b2 b3 kd st (.slice A n c) (.slice none 0 0)] w fun e w' => e = .returned (.string ⟨#[]⟩) ∧ Below w.heap.size w w' := by
  go_enter Try.func10, Try.ntmps10
  go_wp2_with (go_at_call 27; refine (val_out b0 b1 b2 b3 kd st A n c 0 _ (by omega)).mono ?_; rintro e w' ⟨rfl, hq⟩; have HQ := Lib.hid hq; clear hq)
  go_ret
  exact ⟨rfl, ((Below.refl _ _).alloc (Nat.le_refl _) _).trans (HQ.out.mono (by simp))⟩
set_option maxRecDepth 100000 in
set_option maxHeartbeats 2000000 in
theorem str_hit (b0 b1 b2 b3 : Bool) (kd : Int) (st : ByteArray) (x : Addr) (b n c p m : Nat) (f : Nat → Int) (s : ByteArray) (w : World) (k1 : (kd == 1) = false) (k3 : (kd == 3) = true) (hn : n ≤ 1048576) (hp : p < n) (hc : w.cell? (x.add p) = some (.string s)) (hI : ∀ i, i < n → w.cell? ⟨b, i, none⟩ = some (.int .i64 (f i))) (hs : ∀ i j, i < j → j < n → f i < f j) (hf : f p = 0) :
    Calls Try.prog 10 #[varV b0 b1 b2 b3 kd st (.slice (some x) n c) (.slice (some ⟨b, 0, none⟩) n m)] w fun e w' => e = .returned (.string s) ∧ Below w.heap.size w w' := by
  have Hhn := Lib.hid hn
  have Hhp := Lib.hid hp
  have Hhc := Lib.hid hc
  have HhI := Lib.hid hI
  have Hhs := Lib.hid hs
  have Hhf := Lib.hid hf
  clear hn hp hc hI hs hf
  go_enter Try.func10, Try.ntmps10
  go_wp2_with (go_at_call 27; refine (val_hit b0 b1 b2 b3 kd st x b n c p m f 0 s _ Hhn.out Hhp.out (al Hhc.out _) (fun i h => al (HhI.out i h) _) Hhs.out Hhf.out).mono ?_; rintro e w' ⟨rfl, hq⟩; have HQ := Lib.hid hq; clear hq)
  go_ret
  exact ⟨rfl, ((Below.refl _ _).alloc (Nat.le_refl _) _).trans (HQ.out.mono (by simp))⟩
set_option maxRecDepth 100000 in
set_option maxHeartbeats 2000000 in
theorem str_miss (b0 b1 b2 b3 : Bool) (kd : Int) (st : ByteArray) (A : Option Addr) (b n c d m : Nat) (f : Nat → Int) (w : World) (k1 : (kd == 1) = false) (k3 : (kd == 3) = true)  (hn : m ≤ 1048576) (hb : b < w.heap.size) (hI : ∀ i, i < m → w.cell? ⟨b, i, none⟩ = some (.int .i64 (f i))) (hs : ∀ i j, i < j → j < m → f i < f j) (hf : ∀ i, i < m → ¬ f i = 0) :
    Calls Try.prog 10 #[varV b0 b1 b2 b3 kd st (.slice A n c) (.slice (some ⟨b, 0, none⟩) m d)] w fun e w' => e = .returned (.string ⟨#[]⟩) ∧ Below w.heap.size w w' := by
  have Hhn := Lib.hid hn
  have Hhb := Lib.hid hb
  have HhI := Lib.hid hI
  have Hhs := Lib.hid hs
  have Hhf := Lib.hid hf
  clear hn hb hI hs hf
  go_enter Try.func10, Try.ntmps10
  go_wp2_with (go_at_call 27; refine (val_miss b0 b1 b2 b3 kd st A b n c d m f 0 _ Hhn.out (Nat.lt_of_lt_of_le Hhb.out (by simp)) (fun i h => al (HhI.out i h) _) Hhs.out Hhf.out).mono ?_; rintro e w' ⟨rfl, hq⟩; have HQ := Lib.hid hq; clear hq)
  go_ret
  exact ⟨rfl, ((Below.refl _ _).alloc (Nat.le_refl _) _).trans (HQ.out.mono (by simp))⟩
set_option maxHeartbeats 1000000 in
theorem mkVar_any (b0 b1 b2 b3 : Bool) (kd : Int) (st : ByteArray) (a b : Option Addr) (n c m d : Nat) (w : World) :
    Calls Try.prog 22 #[.bool b0, .bool b1, .bool b2, .bool b3, .int .u8 kd, .string st, .slice a n c, .slice b m d] w fun e w' => e = .returned (varV b0 b1 b2 b3 kd st (.slice a n c) (.slice b m d)) ∧ Below w.heap.size w w' := by
  go_enter Try.func22, Try.ntmps22
  go_wp2
  exact bodyPost_ret (v := varV b0 b1 b2 b3 kd st (.slice a n c) (.slice b m d)) (by simp [results, Try.results22, go_sem]) rfl ⟨rfl, (Below.refl _ _).alloc (Nat.le_refl _) _⟩
/-- the bounds that a true zzBytes_ gives -/
def Small (s n m : Nat) (f : Nat → ByteArray) : Prop := s ≤ 1048576 ∧ n ≤ 1048576 ∧ m ≤ 1048576 ∧ ∀ i, i < n → (f i).size ≤ 1048576
def Way (n : Nat) (f : Nat → ByteArray) (vz vi : Value) : Prop := ∃ k z : Nat, k ≤ n ∧ z ≤ 1048576 ∧ vi = .int .i64 k ∧ vz = .int .i64 z ∧ ∀ i, i < k → (f i).size ≤ 1048576
set_option maxRecDepth 100000 in
set_option maxHeartbeats 2000000 in
theorem bytes_any (b0 b1 b2 b3 : Bool) (kd : Int) (st : ByteArray) (a b : Option Addr) (n c m d : Nat) (f : Nat → ByteArray) (w : World) (h : SRow w a n f) (hs : ∀ i, i < n → (f i).size ≤ 9223372036854775807) (hst : st.size ≤ 9223372036854775807) (hn : n ≤ 9223372036854775807) (hm : m ≤ 9223372036854775807) :
    Calls Try.prog 18 #[.bool b0, .bool b1, .bool b2, .bool b3, .int .u8 kd, .string st, .slice a n c, .slice b m d] w (AnyBool (Small st.size n m f) w) := by
  have H := Lib.hid h
  have HS := Lib.hid hs
  clear h hs
  by_cases h0 : 1048576 < st.size
  · go_enter Try.func18, Try.ntmps18
    go_wp2
    go_ret
    exact ⟨false, rfl, (fun h => by cases h), rfl⟩
  by_cases h1 : 1048576 < n
  · go_enter Try.func18, Try.ntmps18
    go_wp2
    go_ret
    exact ⟨false, rfl, (fun h => by cases h), rfl⟩
  by_cases h2 : 1048576 < st.size + n
  · go_enter Try.func18, Try.ntmps18
    go_wp2
    go_ret
    exact ⟨false, rfl, (fun h => by cases h), rfl⟩
  go_enter Try.func18, Try.ntmps18
  go_wp2
  go_loop [17, 18] (fun vz vi => Way n f vz vi) (fun _ vi => n - (intOf vi).toNat)
  case atStart => exact ⟨0, st.size + n, Nat.zero_le _, by omega, rfl, by go_num, fun i h => by omega⟩
  case round =>
    obtain ⟨k, z, hk, hz, rfl, rfl, hall⟩ := hrel
    have HA := Lib.hid hall
    clear hall
    by_cases hlt : k < n
    · obtain ⟨x, rfl, hc⟩ := H.out k hlt
      have hsz := HS.out k hlt
      have i0 : (0 : Int) ≤ (k : Int) := by omega
      have i1 : (k : Int) < (n : Int) := by omega
      by_cases hbig : 1048576 < (f k).size
      · go_wp2
        go_ret
        exact ⟨false, rfl, (fun h => by cases h), rfl⟩
      by_cases hsum : 1048576 < z + (f k).size
      · go_wp2
        go_ret
        exact ⟨false, rfl, (fun h => by cases h), rfl⟩
      · go_wp2
        go_round
        case rel =>
          refine ⟨k + 1, z + (f k).size, by omega, by omega, by go_num, by go_num, fun i hi => ?_⟩
          rcases Nat.lt_or_ge i k with h | h
          · exact HA.out i h
          · have : i = k := by omega
            rw [this]; omega
        case measure => simp [intOf]; omega
    · have hkn : k = n := by omega
      subst hkn
      by_cases hbig : 1048576 < m
      · go_wp2
        go_ret
        exact ⟨false, rfl, (fun h => by cases h), rfl⟩
      by_cases hsum : 1048576 < z + m
      · go_wp2
        go_ret
        exact ⟨false, rfl, (fun h => by cases h), rfl⟩
      · go_wp2
        go_ret
        exact ⟨true, rfl, (fun _ => ⟨by omega, by omega, by omega, HA.out⟩), rfl⟩
def Way2 (n : Nat) (vz vi : Value) : Prop := ∃ k z : Nat, k ≤ n ∧ z ≤ 33554432 ∧ vi = .int .i64 k ∧ vz = .int .i64 z
set_option maxRecDepth 100000 in
set_option maxHeartbeats 2000000 in
theorem tooBig_any (st : ByteArray) (a b : Option Addr) (n c m d : Nat) (f : Nat → ByteArray) (w : World) (h : SRow w a n f) (hs : ∀ i, i < n → (f i).size ≤ 1048576) (hst : st.size ≤ 1048576) (hn : n ≤ 1048576) (hm : m ≤ 1048576) :
    Calls Try.prog 19 #[.string st, .slice a n c, .slice b m d] w (AnyBool True w) := by
  have H := Lib.hid h
  have HS := Lib.hid hs
  clear h hs
  have s1 : ¬ (1048576 : Int) < (st.size : Int) := by omega
  by_cases h1 : 131072 < n
  · go_enter Try.func19, Try.ntmps19
    go_wp2
    go_ret
    exact ⟨true, rfl, (fun _ => trivial), rfl⟩
  have s2 : ¬ (131072 : Int) < (n : Int) := by omega
  by_cases h2 : 131072 < m
  · go_enter Try.func19, Try.ntmps19
    go_wp2
    go_ret
    exact ⟨true, rfl, (fun _ => trivial), rfl⟩
  have s3 : ¬ (131072 : Int) < (m : Int) := by omega
  go_enter Try.func19, Try.ntmps19
  go_wp2
  go_loop [7, 8] (fun vz vi => Way2 n vz vi) (fun _ vi => n - (intOf vi).toNat)
  case atStart => exact ⟨0, st.size + 8 * n + 8 * m, Nat.zero_le _, by omega, rfl, by go_num⟩
  case round =>
    obtain ⟨k, z, hk, hz, rfl, rfl⟩ := hrel
    by_cases hlt : k < n
    · obtain ⟨x, rfl, hc⟩ := H.out k hlt
      have hsz := HS.out k hlt
      have i0 : (0 : Int) ≤ (k : Int) := by omega
      have i1 : (k : Int) < (n : Int) := by omega
      by_cases hsum : 1048576 < z + (f k).size
      · go_wp2
        go_ret
        exact ⟨true, rfl, (fun _ => trivial), rfl⟩
      · go_wp2
        go_round
        case rel => exact ⟨k + 1, z + (f k).size, by omega, by omega, by go_num, by go_num⟩
        case measure => simp [intOf]; omega
    · go_wp2
      go_ret
      exact ⟨_, rfl, (fun _ => trivial), rfl⟩
/-- each element is smaller than the next -/
def Inc (n : Nat) (f : Nat → Int) : Prop := ∀ i, i + 1 < n → f i < f (i + 1)
theorem inc_or (f : Nat → Int) (n : Nat) : Inc n f ∨ ∃ j, j + 1 < n ∧ (∀ i, i < j → f i < f (i + 1)) ∧ f (j + 1) ≤ f j := by
  induction n with
  | zero => exact .inl fun i h => by omega
  | succ n ih =>
    rcases ih with h | ⟨j, hj, h1, h2⟩
    · cases n with
      | zero => exact .inl fun i h => by omega
      | succ n =>
        by_cases hn : f n < f (n + 1)
        · refine .inl fun i hi => ?_
          rcases Nat.lt_or_ge (i + 1) (n + 1) with h' | h'
          · exact h i h'
          · have : i = n := by omega
            rw [this]; exact hn
        · exact .inr ⟨n, by omega, fun i hi => h i (by omega), by omega⟩
    · exact .inr ⟨j, by omega, h1, h2⟩
theorem Inc.lt {n : Nat} {f : Nat → Int} (h : Inc n f) : ∀ i j, i < j → j < n → f i < f j := by
  intro i j hij hj
  induction j with
  | zero => omega
  | succ j ih =>
    have h1 := h j hj
    rcases Nat.lt_or_ge i j with h' | h'
    · have := ih h' (by omega); omega
    · have : i = j := by omega
      rw [this]; exact h1
theorem drewN_zero (w : World) : w.drewN 0 = w := rfl
def IncWay (n : Nat) (w : World) (vi : Value) (wr : World) : Prop := ∃ k q : Nat, (k + 1 ≤ n ∨ (n = 0 ∧ k = 0)) ∧ vi = .int .i64 ((k : Int) + 1) ∧ w.drewN q = wr
theorem own_lt {w' : World} {b0 b n : Nat} {t : TypeId} {xs : List Value} (h : w'.ownsRow b0 t 1 (.slice (some ⟨b, 0, none⟩) n n) n xs) : b < w'.heap.size := by
  rcases h.2 with ⟨h, _⟩ | ⟨g, cap, cur, hv, _, hh, _⟩
  · cases h
  · injection hv with h1
    injection h1 with h1
    injection h1 with h1
    subst h1
    rcases Nat.lt_or_ge b w'.heap.size with hlt | hge
    · exact hlt
    · rw [Array.getElem?_eq_none hge] at hh; cases hh
theorem row_of {w : World} {x : Addr} {n : Nat} {g : Nat → Int} (h : IRow .i64 w (some x) n g) : (0 < n → x.block < w.heap.size) ∧ ∀ i, i < n → w.cell? (x.add i) = some (.int .i64 (g i)) := by
  have hc : ∀ i, i < n → w.cell? (x.add i) = some (.int .i64 (g i)) := fun i hi => by
    obtain ⟨y, hy, hc⟩ := h i hi
    injection hy with hy
    rw [hy]; exact hc
  refine ⟨fun hn => ?_, hc⟩
  have := World.block_lt_of_cell? w _ (hc 0 hn)
  rwa [add_block] at this
theorem bel3 {w w1 w2 w3 : World} (o : Obj) (h1 : Below w.heap.size w w1) (h2 : Below w1.heap.size w1 w2) (h3 : Below (w2.alloc o).heap.size (w2.alloc o) w3) : Below w.heap.size w w3 := by
  have t2 := h1.trans (h2.mono h1.size)
  exact (t2.alloc t2.size o).trans (h3.mono (Nat.le_trans t2.size (by simp)))
theorem belq {w w1 : World} (q : Nat) (h : Below (w.drewN q).heap.size (w.drewN q) w1) : Below w.heap.size w w1 := (below_drewN (Below.refl w.heap.size w) q).trans h
theorem bel2 {w w1 w2 : World} (h1 : Below w.heap.size w w1) (h2 : Below w1.heap.size w1 w2) : Below w.heap.size w w2 := h1.trans (h2.mono h1.size)
end Go.Proofs.Ythfjbbeecoeenaa
