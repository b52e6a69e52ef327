/- The contracts of indexedVal and its export at the Variables that FnIndexedValMatchesLinearSearch builds. Conditions: the cells and lengths that each contract names. -/
import Derived.Test.YtijilflnfdgdnaaIdx
namespace Go.Proofs.Ytijilflnfdgdnaa
open Go.RowKit

theorem al {w : World} {a : Addr} {v : Value} (h : w.cell? a = some v) (o : Obj) : (w.alloc o).cell? a = some v := (World.cell?_alloc_lt w o a (World.block_lt_of_cell? w _ h)).trans h
theorem bal {w W : World} (h : Below w.heap.size w W) (o : Obj) : Below w.heap.size w (W.alloc o) := h.alloc h.size o
abbrev varV (L I : Value) : Value := .agg #[.bool true, .bool false, .bool false, .bool false, .int .u8 3, .string ⟨#[]⟩, L, .map none, I]
/-- a string and a bool are returned; nothing old has turned -/
def Pair (s : ByteArray) (x : Bool) (w : World) (e : Ending) (w' : World) : Prop := e = .returned (.tuple #[.string s, .bool x]) ∧ Below w.heap.size w w'
set_option maxRecDepth 100000 in
set_option maxHeartbeats 2000000 in
theorem val_dense (x : Addr) (n c k : Nat) (s : ByteArray) (w : World) (_hn : n ≤ 1048576) (hk : k < n) (hc : w.cell? (x.add k) = some (.string s)) :
    Calls Try.prog 32 #[varV (.slice (some x) n c) (.slice none 0 0), .int .i64 k] w (Pair s true w) := by
  have q1 := CI.sl_neq
  have hb := World.block_lt_of_cell? w _ hc
  have i0 : (0 : Int) ≤ (k : Int) := by omega
  have i1 : (k : Int) < (n : Int) := by omega
  have hc' : (w.alloc (.cells #[.bool true, .bool false, .bool false, .bool false, .int .u8 3, .string ⟨#[]⟩, .slice (some x) n c, .map none, .slice none 0 0] 52)).cell? (x.add k) = some (.string s) := (World.cell?_alloc_lt w _ _ hb).trans hc
  clear hb hc
  go_enter Try.func32, Try.ntmps32
  go_wp2
  go_ret2
  exact ⟨rfl, by repeat (first | exact Below.refl _ _ | apply Below.drew | apply bal)⟩
set_option maxRecDepth 100000 in
set_option maxHeartbeats 2000000 in
theorem zval_dense (x : Addr) (n c k : Nat) (s : ByteArray) (w : World) (hn : n ≤ 1048576) (hk : k < n) (hc : w.cell? (x.add k) = some (.string s)) :
    Calls Try.prog 26 #[varV (.slice (some x) n c) (.slice none 0 0), .int .i64 k] w (Pair s true w) := by
  have Hhn := Lib.hid hn
  have Hhk := Lib.hid hk
  have Hhc := Lib.hid hc
  clear hn hk hc
  go_enter Try.func26, Try.ntmps26
  go_wp2_with (go_at_call 32; refine (val_dense x n c k s _ Hhn.out Hhk.out (al Hhc.out _)).mono ?_; rintro e w' ⟨rfl, hq⟩; have HQ := Lib.hid hq; clear hq)
  go_ret2
  exact ⟨rfl, (((Below.refl _ _).alloc (Nat.le_refl _) _).trans (HQ.out.mono (by simp)))⟩
set_option maxRecDepth 100000 in
set_option maxHeartbeats 2000000 in
theorem val_out (A : Option Addr) (n c : Nat) (i : Int) (w : World) (hi : (n : Int) ≤ i) :
    Calls Try.prog 32 #[varV (.slice A n c) (.slice none 0 0), .int .i64 i] w (Pair ⟨#[]⟩ false w) := by
  have q1 := CI.sl_neq
  have i1 : ¬ i < (n : Int) := by omega
  go_enter Try.func32, Try.ntmps32
  go_wp2
  go_ret2
  exact ⟨rfl, by repeat (first | exact Below.refl _ _ | apply Below.drew | apply bal)⟩
set_option maxRecDepth 100000 in
set_option maxHeartbeats 2000000 in
theorem zval_out (A : Option Addr) (n c : Nat) (i : Int) (w : World) (hi : (n : Int) ≤ i) :
    Calls Try.prog 26 #[varV (.slice A n c) (.slice none 0 0), .int .i64 i] w (Pair ⟨#[]⟩ false w) := by
  have Hhi := Lib.hid hi
  clear hi
  go_enter Try.func26, Try.ntmps26
  go_wp2_with (go_at_call 32; refine (val_out A n c i _ Hhi.out).mono ?_; rintro e w' ⟨rfl, hq⟩; have HQ := Lib.hid hq; clear hq)
  go_ret2
  exact ⟨rfl, (((Below.refl _ _).alloc (Nat.le_refl _) _).trans (HQ.out.mono (by simp)))⟩
set_option maxRecDepth 100000 in
set_option maxHeartbeats 2000000 in
theorem val_hit (x : Addr) (b n c p m : Nat) (f : Nat → Int) (t : Int) (s : ByteArray) (w : World) (hn : n ≤ 1048576) (hp : p < n) (hc : w.cell? (x.add p) = some (.string s)) (hI : ∀ i, i < n → w.cell? ⟨b, i, none⟩ = some (.int .i64 (f i))) (hs : ∀ i j, i < j → j < n → f i < f j) (hf : f p = t) :
    Calls Try.prog 32 #[varV (.slice (some x) n c) (.slice (some ⟨b, 0, none⟩) n m), .int .i64 t] w (Pair s true w) := by
  have q1 := CI.sl_neq
  have hb := World.block_lt_of_cell? w _ hc
  have hbb := World.block_lt_of_cell? w _ (hI p hp)
  have i0 : (0 : Int) ≤ (p : Int) := by omega
  have i1 : (p : Int) < (n : Int) := by omega
  have hc' : (w.alloc (.cells #[.bool true, .bool false, .bool false, .bool false, .int .u8 3, .string ⟨#[]⟩, .slice (some x) n c, .map none, .slice (some ⟨b, 0, none⟩) n m] 52)).cell? (x.add p) = some (.string s) := (World.cell?_alloc_lt w _ _ hb).trans hc
  have HI := Lib.hid (fun i (h : i < n) => (World.cell?_alloc_lt w (.cells #[.bool true, .bool false, .bool false, .bool false, .int .u8 3, .string ⟨#[]⟩, .slice (some x) n c, .map none, .slice (some ⟨b, 0, none⟩) n m] 52) ⟨b, i, none⟩ hbb).trans (hI i h))
  have HS := Lib.hid hs
  have HF := Lib.hid hf
  clear hb hbb hc hI hs hf
  go_enter Try.func32, Try.ntmps32
  go_wp2_with (go_at_call 36; refine (BS.hit b n m p f t _ HI.out HS.out hn hp HF.out).mono ?_; rintro e w' ⟨rfl, rfl⟩)
  go_ret2
  exact ⟨rfl, by repeat (first | exact Below.refl _ _ | apply Below.drew | apply bal)⟩
set_option maxRecDepth 100000 in
set_option maxHeartbeats 2000000 in
theorem zval_hit (x : Addr) (b n c p m : Nat) (f : Nat → Int) (t : Int) (s : ByteArray) (w : World) (hn : n ≤ 1048576) (hp : p < n) (hc : w.cell? (x.add p) = some (.string s)) (hI : ∀ i, i < n → w.cell? ⟨b, i, none⟩ = some (.int .i64 (f i))) (hs : ∀ i j, i < j → j < n → f i < f j) (hf : f p = t) :
    Calls Try.prog 26 #[varV (.slice (some x) n c) (.slice (some ⟨b, 0, none⟩) n m), .int .i64 t] w (Pair s true w) := by
  have Hhn := Lib.hid hn
  have Hhp := Lib.hid hp
  have Hhc := Lib.hid hc
  have HhI := Lib.hid hI
  have Hhs := Lib.hid hs
  have Hhf := Lib.hid hf
  clear hn hp hc hI hs hf
  go_enter Try.func26, Try.ntmps26
  go_wp2_with (go_at_call 32; refine (val_hit x b n c p m f t s _ Hhn.out Hhp.out (al Hhc.out _) (fun i h => al (HhI.out i h) _) Hhs.out Hhf.out).mono ?_; rintro e w' ⟨rfl, hq⟩; have HQ := Lib.hid hq; clear hq)
  go_ret2
  exact ⟨rfl, (((Below.refl _ _).alloc (Nat.le_refl _) _).trans (HQ.out.mono (by simp)))⟩
set_option maxRecDepth 100000 in
set_option maxHeartbeats 2000000 in
theorem val_miss (A : Option Addr) (b n c d m : Nat) (f : Nat → Int) (t : Int) (w : World) (hn : m ≤ 1048576) (hb : b < w.heap.size) (hI : ∀ i, i < m → w.cell? ⟨b, i, none⟩ = some (.int .i64 (f i))) (hs : ∀ i j, i < j → j < m → f i < f j) (hf : ∀ i, i < m → ¬ f i = t) :
    Calls Try.prog 32 #[varV (.slice A n c) (.slice (some ⟨b, 0, none⟩) m d), .int .i64 t] w (Pair ⟨#[]⟩ false w) := by
  have q1 := CI.sl_neq
  have HI := Lib.hid (fun i (h : i < m) => (World.cell?_alloc_lt w (.cells #[.bool true, .bool false, .bool false, .bool false, .int .u8 3, .string ⟨#[]⟩, .slice A n c, .map none, .slice (some ⟨b, 0, none⟩) m d] 52) ⟨b, i, none⟩ hb).trans (hI i h))
  have HS := Lib.hid hs
  have HF := Lib.hid hf
  clear hb hI hs hf
  go_enter Try.func32, Try.ntmps32
  go_wp2_with (go_at_call 36; refine (BS.miss b m d f t _ HI.out HS.out hn HF.out).mono ?_; rintro e w' ⟨ix, rfl, rfl⟩)
  go_ret2
  exact ⟨rfl, by repeat (first | exact Below.refl _ _ | apply Below.drew | apply bal)⟩
set_option maxRecDepth 100000 in
set_option maxHeartbeats 2000000 in
theorem zval_miss (A : Option Addr) (b n c d m : Nat) (f : Nat → Int) (t : Int) (w : World) (hn : m ≤ 1048576) (hb : b < w.heap.size) (hI : ∀ i, i < m → w.cell? ⟨b, i, none⟩ = some (.int .i64 (f i))) (hs : ∀ i j, i < j → j < m → f i < f j) (hf : ∀ i, i < m → ¬ f i = t) :
    Calls Try.prog 26 #[varV (.slice A n c) (.slice (some ⟨b, 0, none⟩) m d), .int .i64 t] w (Pair ⟨#[]⟩ false w) := by
  have Hhn := Lib.hid hn
  have Hhb := Lib.hid hb
  have HhI := Lib.hid hI
  have Hhs := Lib.hid hs
  have Hhf := Lib.hid hf
  clear hn hb hI hs hf
  go_enter Try.func26, Try.ntmps26
  go_wp2_with (go_at_call 32; refine (val_miss A b n c d m f t _ Hhn.out (Nat.lt_of_lt_of_le Hhb.out (by simp)) (fun i h => al (HhI.out i h) _) Hhs.out Hhf.out).mono ?_; rintro e w' ⟨rfl, hq⟩; have HQ := Lib.hid hq; clear hq)
  go_ret2
  exact ⟨rfl, (((Below.refl _ _).alloc (Nat.le_refl _) _).trans (HQ.out.mono (by simp)))⟩
end Go.Proofs.Ytijilflnfdgdnaa
