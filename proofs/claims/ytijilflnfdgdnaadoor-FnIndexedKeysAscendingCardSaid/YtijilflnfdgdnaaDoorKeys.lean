/- The contracts of strconv.Itoa, zzKeyLess, zzNonNeg and indexedKeys at the Variables that FnIndexedKeysAscending builds. Conditions: the cells, the bounds and the table that each contract names. -/
import Derived.Test.YtijilflnfdgdnaaDoorIdx
import Derived.Test.YtijilflnfdgdnaaDoorKeyLaw
import Derived.Test.YtijilflnfdgdnaaDoorShelf
import Derived.Test.YtijilflnfdgdnaaDoorTie
import Derived.Lib.AppendIntMem
import Derived.Lib.LaidTab
import Derived.Lib.Strings
import Derived.OwnWalk
namespace Go.Proofs.YtijilflnfdgdnaaDoor
open Go.RowKit

/-- the table of powers of ten, as its initialiser lays it -/
def TabOk (w : World) : Prop := Lib.TabIs Tryd.prog w "internal/strconv.uint64pow10" .u64 Lib.pow10Tab
theorem TabOk.later {w w' : World} (h : TabOk w) (hb : Below w.heap.size w w') : TabOk w' := by
  unfold TabOk Lib.TabIs World.var? at h ⊢
  cases hg : Tryd.prog.globalNamed "internal/strconv.uint64pow10" with
  | none => rw [hg] at h; simp at h
  | some g =>
    rw [hg] at h
    simp only [Option.bind_some] at h ⊢
    have e : w'.heap[g]? = w.heap[g]? := hb.block g (by
      cases hh : w.heap[g]? with
      | none => rw [hh] at h; simp at h
      | some o => exact (Array.getElem?_eq_some_iff.1 hh).1)
    rw [e]; exact h
/-- the numeral of n as a string -/
def num (n : Int) : ByteArray := ⟨(Lib.itoa n).toArray⟩
theorem itoa_any (n : Int) (h0 : -9223372036854775808 ≤ n) (h1 : n ≤ 9223372036854775807) (w : World) (h : TabOk w) :
    Calls Tryd.prog 14 #[.int .i64 n] w fun e w' => e = .returned (.string (num n)) ∧ Below w.heap.size w w' := by
  refine (Tryd.strconv_Itoa n h0 h1 w h).mono ?_
  rintro e w' ⟨rfl, k, os, rfl⟩
  exact ⟨rfl, Lib.below_grow _ _ (Nat.le_refl _) k os⟩

/-- zzKeyLess at two numerals in order -/
theorem less_yes (a b : Int) (h0 : 0 ≤ a) (h : a < b) (w : World) :
    Calls Tryd.prog 12 #[.string (num a), .string (num b)] w fun e w' => e = .returned (.bool true) ∧ w = w' := by
  have hk := KL.key a b h0 h
  have sa : (num a).size = (Lib.itoa a).length := by simp [num, ByteArray.size]
  have sb : (num b).size = (Lib.itoa b).length := by simp [num, ByteArray.size]
  have la : (num a).toList = Lib.itoa a := by rw [Lib.toList_data]; simp [num]
  have lb : (num b).toList = Lib.itoa b := by rw [Lib.toList_data]; simp [num]
  rw [← sa, ← sb, ← la, ← lb] at hk
  clear sa sb la lb
  generalize num a = x at *
  generalize num b = y at *
  rcases hk with hk | ⟨hk, hl⟩
  · have h1 : ((x.size : Int) != (y.size : Int)) = true := by simp; omega
    have h2 : (x.size != y.size) = true := by simp; omega
    have h3 : (x.size : Int) < (y.size : Int) := by omega
    go_enter Tryd.func12, Tryd.ntmps12
    go_wp2
    go_ret
    exact ⟨rfl, rfl⟩
  · have h1 : ((x.size : Int) != (y.size : Int)) = false := by simp; omega
    have h2 : (x.size != y.size) = false := by simp; omega
    clear hk
    go_enter Tryd.func12, Tryd.ntmps12
    go_wp2
    go_ret
    exact ⟨rfl, rfl⟩
def AllNN (n : Nat) (f : Nat → Int) : Prop := ∀ i, i < n → 0 ≤ f i
set_option maxHeartbeats 1000000 in
theorem nonneg_any (a : Option Addr) (n c : Nat) (f : Nat → Int) (w : World) (h : IRow .i64 w a n f) (hn : n ≤ 1048576) :
    Calls Tryd.prog 8 #[.slice a n c] w (AnyBool (AllNN n f) w) := by
  have H := Lib.hid h
  clear h
  go_enter Tryd.func8, Tryd.ntmps8
  go_wp2
  go_loop [3] (fun vi => ∃ k : Nat, k ≤ n ∧ vi = .int .i64 k ∧ ∀ i, i < k → 0 ≤ f i) (fun vi => n - (intOf vi).toNat)
  case atStart => exact ⟨0, Nat.zero_le _, rfl, fun i h => by omega⟩
  case round =>
    obtain ⟨k, hk, rfl, hall⟩ := hrel
    have HA := Lib.hid hall
    clear hall
    by_cases hlt : k < n
    · obtain ⟨x, rfl, hc⟩ := H.out k hlt
      have i0 : (0 : Int) ≤ (k : Int) := by omega
      have i1 : (k : Int) < (n : Int) := by omega
      by_cases hneg : f k < 0
      · go_wp2
        go_ret
        exact ⟨false, rfl, (fun h => by cases h), rfl⟩
      · go_wp2
        go_round
        case rel =>
          refine ⟨k + 1, by omega, by go_num, fun i hi => ?_⟩
          rcases Nat.lt_or_ge i k with h | h
          · exact HA.out i h
          · have : i = k := by omega
            rw [this]; omega
        case measure => simp [intOf]; omega
    · have hnk : ¬ (k : Int) < (n : Int) := by omega
      go_wp2
      go_ret
      exact ⟨true, rfl, (fun _ i hi => HA.out i (by omega)), rfl⟩
/-- the row of keys behind k rounds -/
def KHalf (xs : List Value) (n k : Nat) (g : Nat → Int) : Prop := xs.length = n ∧ ∀ i, i < k → xs[i]? = some (.string (num (g i)))
theorem KHalf.step {xs : List Value} {n k : Nat} {g : Nat → Int} (h : KHalf xs n k g) (hk : k < n) : KHalf (xs.set k (.string (num (g k)))) n (k + 1) g := by
  obtain ⟨hl, hh⟩ := h
  refine ⟨by simpa using hl, fun i hi => ?_⟩
  rcases Nat.lt_or_ge i k with h | h
  · rw [List.getElem?_set_ne (by omega)]; exact hh i h
  · obtain rfl : i = k := by omega
    rw [List.getElem?_set_self (by omega)]
/-- what indexedKeys leaves: the numerals of g -/
def KeysV (n : Nat) (g : Nat → Int) (w : World) (e : Ending) (w' : World) : Prop := ∃ A : Addr, e = .returned (.slice (some A) n n) ∧ (∀ i, i < n → w'.cell? (A.add i) = some (.string (num (g i)))) ∧ Below w.heap.size w w'
abbrev varV (L I : Value) : Value := .agg #[.bool true, .bool false, .bool false, .bool false, .int .u8 3, .string ⟨#[]⟩, L, .map none, I]
theorem add0 (b i : Nat) : (⟨b, 0, none⟩ : Addr).add i = ⟨b, i, none⟩ := by unfold Addr.add; split <;> simp_all
theorem infoS : (Tryd.prog.info? 9).map (fun i => (i.zero, i.size, i.bytes)) = some (some (.string ⟨#[]⟩), 1, 16) := by kernel_rfl
theorem neq_any (w : World) (a : Option Addr) (n c : Nat) : (binOp .neq 23 (.slice a n c) (.slice none 0 0)).run Tryd.prog w = .ok (.bool (!a.isNone)) w := run_neq_slice_nil_any w 23 3 a n c 0 0 Tryd.underlying23
theorem own_later {w w' : World} {base size n : Nat} {e : TypeId} {v : Value} {xs : List Value} (h : w.ownsRow base e size v n xs) (hb : Below w.heap.size w w') : w'.ownsRow base e size v n xs := by
  refine ⟨h.1, ?_⟩
  rcases h.2 with ⟨h1, h2⟩ | ⟨g, cap, cur, hv, h1, hg, h3⟩
  · exact .inl ⟨h1, h2⟩
  · exact .inr ⟨g, cap, cur, hv, h1, (hb.block g (Array.getElem?_eq_some_iff.1 hg).1).trans hg, h3⟩
set_option maxRecDepth 100000 in
set_option maxHeartbeats 4000000 in
theorem keys_dense (A : Option Addr) (n c : Nat) (w : World) (hT : TabOk w) (hn : n ≤ 1048576) :
    Calls Tryd.prog 13 #[varV (.slice A n c) (.slice none 0 0)] w (KeysV n (fun i => (i : Int)) w) := by
  obtain ⟨ii, hi, hz0, hz1, hz2⟩ := info_parts infoS
  have q1 := neq_any
  have HT := Lib.hid hT
  clear hT
  have HB0 : Hid (Below w.heap.size w (w.alloc (.cells #[.bool true, .bool false, .bool false, .bool false, .int .u8 3, .string ⟨#[]⟩, .slice A n c, .map none, .slice none 0 0] 33))) := Lib.hid ((Below.refl _ _).alloc (Nat.le_refl _) _)
  go_enter Tryd.func13, Tryd.ntmps13
  go_wp2_with (at_make; refine wpList_make_full _ rfl _ _ _ rfl (w.heap.size + 1) 9 ii (.string ⟨#[]⟩) 1 Tryd.underlying22 hi hz0 hz1 .i64 .i64 _ _ n rfl rfl rfl rfl (by rw [hz2]; omega) (by unfold maxLen; omega) (by simp) ?_; intro w1 hown hgrow
               have HB1 : Hid (Below (w.heap.size + 1) (w.alloc (.cells #[.bool true, .bool false, .bool false, .bool false, .int .u8 3, .string ⟨#[]⟩, .slice A n c, .map none, .slice none 0 0] 33)) w1) := Lib.hid ((Below.refl _ _).grown hgrow (by simp) (fun k hk => by cases hk))
               have HO1 : Hid (∃ xs, w1.ownsRow (w.heap.size + 1) 9 1 (.slice (some ⟨w.heap.size + 1, 0, none⟩) n n) n xs ∧ KHalf xs n 0 (fun i => (i : Int))) := Lib.hid ⟨_, by simpa using hown, by simp [size_madeCells], fun i h => by omega⟩
               have c6 : w1.cell? ⟨w.heap.size, 6, none⟩ = some (.slice A n c) := (HB1.out.cell (p := ⟨w.heap.size, 6, none⟩) (by simp)).trans (by go_simp)
               clear hown hgrow)
  clear c6
  go_loopw [12] (fun vi wr => ∃ k : Nat, k ≤ n ∧ vi = .int .i64 k ∧ (∃ xs, wr.ownsRow (w.heap.size + 1) 9 1 (.slice (some ⟨w.heap.size + 1, 0, none⟩) n n) n xs ∧ KHalf xs n k (fun i => (i : Int))) ∧ Below (w.heap.size + 1) (w.alloc (.cells #[.bool true, .bool false, .bool false, .bool false, .int .u8 3, .string ⟨#[]⟩, .slice A n c, .map none, .slice none 0 0] 33)) wr) (fun vi _ => n - (intOf vi).toNat)
  case atStart => exact ⟨0, Nat.zero_le _, rfl, HO1.out, HB1.out⟩
  case round =>
    obtain ⟨k, hk, rfl, ⟨xs, hown, hha⟩, hb⟩ := hrel
    have HO := Lib.hid hown
    have HB := Lib.hid hb
    have HA := Lib.hid hha
    have hsz : w.heap.size + 1 ≤ wr.heap.size := by have := hb.size; simpa using this
    have c8 : wr.cell? ⟨w.heap.size, 8, none⟩ = some (.slice none 0 0) := (hb.cell (p := ⟨w.heap.size, 8, none⟩) (by simp)).trans (by go_simp)
    have HT3 : Hid (TabOk wr) := Lib.hid ((HT.out.later HB0.out).later (hb.mono (by simp)))
    by_cases hlt : k < n
    · have i0 : (0 : Int) ≤ (k : Int) := by omega
      have i1 : (k : Int) < (n : Int) := by omega
      obtain ⟨v0, hv0⟩ : ∃ v, xs[k]? = some v := ⟨_, List.getElem?_eq_getElem (by rw [hha.1]; exact hlt)⟩
      have hc0 := hown.cellAt k (by omega)
      rw [hv0] at hc0
      have hf0 := hown.frozenAt k
      clear hown hb hha hv0
      go_wp2_with (go_at_call 14; refine (itoa_any (k : Int) (by omega) (by omega) _ HT3.out).mono ?_; rintro e w2 ⟨rfl, hb2⟩
                   have HB2 := Lib.hid hb2
                   have d0 : w2.cell? ⟨w.heap.size + 1, k, none⟩ = some v0 := cell_later hb2 hc0
                   have g0 : w2.frozen? ⟨w.heap.size + 1, k, none⟩ = false := (hb2.frozen (p := ⟨w.heap.size + 1, k, none⟩) (World.block_lt_of_cell? wr _ hc0)).trans hf0
                   clear hb2)
      go_roundw
      case rel => exact ⟨k + 1, by omega, by go_num, ⟨_, ((own_later HO.out HB2.out).stored k _).1, HA.out.step hlt⟩, (HB.out.trans (HB2.out.mono hsz)).setCell (p := ⟨w.heap.size + 1, k, none⟩) (Nat.le_refl _) _⟩
      case measure => simp [intOf]; omega
    · have hkn : k = n := by omega
      have hcs : ∀ i, i < n → wr.cell? ((⟨w.heap.size + 1, 0, none⟩ : Addr).add i) = some (.string (num ((i : Int)))) := fun i hi => by
        rw [add0]
        exact (hown.cellAt i (by omega)).trans (hha.2 i (by omega))
      have HCS := Lib.hid hcs
      have hnk : ¬ (k : Int) < (n : Int) := by omega
      clear hown hb hha hcs hkn
      go_wp2
      go_ret
      exact ⟨_, rfl, HCS.out, HB0.out.trans (HB.out.mono (by omega))⟩
set_option maxRecDepth 100000 in
set_option maxHeartbeats 4000000 in
theorem keys_sparse (A : Option Addr) (b n c m : Nat) (g : Nat → Int) (w : World) (hT : TabOk w) (hn : n ≤ 1048576) (hI : ∀ i, i < n → w.cell? ⟨b, i, none⟩ = some (.int .i64 (g i))) (hg : ∀ i, i < n → 0 ≤ g i ∧ g i ≤ 9223372036854775807) :
    Calls Tryd.prog 13 #[varV (.slice A n c) (.slice (some ⟨b, 0, none⟩) n m)] w (KeysV n g w) := by
  obtain ⟨ii, hi, hz0, hz1, hz2⟩ := info_parts infoS
  have q1 := neq_any
  have HT := Lib.hid hT
  have HI := Lib.hid hI
  have HG := Lib.hid hg
  clear hI hg
  clear hT
  have HB0 : Hid (Below w.heap.size w (w.alloc (.cells #[.bool true, .bool false, .bool false, .bool false, .int .u8 3, .string ⟨#[]⟩, .slice A n c, .map none, .slice (some ⟨b, 0, none⟩) n m] 33))) := Lib.hid ((Below.refl _ _).alloc (Nat.le_refl _) _)
  go_enter Tryd.func13, Tryd.ntmps13
  go_wp2_with (at_make; refine wpList_make_full _ rfl _ _ _ rfl (w.heap.size + 1) 9 ii (.string ⟨#[]⟩) 1 Tryd.underlying22 hi hz0 hz1 .i64 .i64 _ _ n rfl rfl rfl rfl (by rw [hz2]; omega) (by unfold maxLen; omega) (by simp) ?_; intro w1 hown hgrow
               have HB1 : Hid (Below (w.heap.size + 1) (w.alloc (.cells #[.bool true, .bool false, .bool false, .bool false, .int .u8 3, .string ⟨#[]⟩, .slice A n c, .map none, .slice (some ⟨b, 0, none⟩) n m] 33)) w1) := Lib.hid ((Below.refl _ _).grown hgrow (by simp) (fun k hk => by cases hk))
               have HO1 : Hid (∃ xs, w1.ownsRow (w.heap.size + 1) 9 1 (.slice (some ⟨w.heap.size + 1, 0, none⟩) n n) n xs ∧ KHalf xs n 0 g) := Lib.hid ⟨_, by simpa using hown, by simp [size_madeCells], fun i h => by omega⟩
               have c6 : w1.cell? ⟨w.heap.size, 6, none⟩ = some (.slice A n c) := (HB1.out.cell (p := ⟨w.heap.size, 6, none⟩) (by simp)).trans (by go_simp)
               clear hown hgrow)
  clear c6
  go_loopw [12] (fun vi wr => ∃ k : Nat, k ≤ n ∧ vi = .int .i64 k ∧ (∃ xs, wr.ownsRow (w.heap.size + 1) 9 1 (.slice (some ⟨w.heap.size + 1, 0, none⟩) n n) n xs ∧ KHalf xs n k g) ∧ Below (w.heap.size + 1) (w.alloc (.cells #[.bool true, .bool false, .bool false, .bool false, .int .u8 3, .string ⟨#[]⟩, .slice A n c, .map none, .slice (some ⟨b, 0, none⟩) n m] 33)) wr) (fun vi _ => n - (intOf vi).toNat)
  case atStart => exact ⟨0, Nat.zero_le _, rfl, HO1.out, HB1.out⟩
  case round =>
    obtain ⟨k, hk, rfl, ⟨xs, hown, hha⟩, hb⟩ := hrel
    have HO := Lib.hid hown
    have HB := Lib.hid hb
    have HA := Lib.hid hha
    have hsz : w.heap.size + 1 ≤ wr.heap.size := by have := hb.size; simpa using this
    have c8 : wr.cell? ⟨w.heap.size, 8, none⟩ = some (.slice (some ⟨b, 0, none⟩) n m) := (hb.cell (p := ⟨w.heap.size, 8, none⟩) (by simp)).trans (by go_simp)
    have HT3 : Hid (TabOk wr) := Lib.hid ((HT.out.later HB0.out).later (hb.mono (by simp)))
    by_cases hlt : k < n
    · have i0 : (0 : Int) ≤ (k : Int) := by omega
      have i1 : (k : Int) < (n : Int) := by omega
      obtain ⟨v0, hv0⟩ : ∃ v, xs[k]? = some v := ⟨_, List.getElem?_eq_getElem (by rw [hha.1]; exact hlt)⟩
      have hc0 := hown.cellAt k (by omega)
      rw [hv0] at hc0
      have hf0 := hown.frozenAt k
      have hlt2 := World.block_lt_of_cell? w _ (HI.out k hlt)
      have hix : wr.cell? ⟨b, k, none⟩ = some (.int .i64 (g k)) := (HB.out.cell (p := ⟨b, k, none⟩) (by omega)).trans ((World.cell?_alloc_lt w _ ⟨b, k, none⟩ hlt2).trans (HI.out k hlt))
      have hgk := HG.out k hlt
      clear hlt2
      clear hown hb hha hv0
      go_wp2_with (go_at_call 14; refine (itoa_any (g k) (by omega) hgk.2 _ HT3.out).mono ?_; rintro e w2 ⟨rfl, hb2⟩
                   have HB2 := Lib.hid hb2
                   have d0 : w2.cell? ⟨w.heap.size + 1, k, none⟩ = some v0 := cell_later hb2 hc0
                   have g0 : w2.frozen? ⟨w.heap.size + 1, k, none⟩ = false := (hb2.frozen (p := ⟨w.heap.size + 1, k, none⟩) (World.block_lt_of_cell? wr _ hc0)).trans hf0
                   clear hb2)
      go_roundw
      case rel => exact ⟨k + 1, by omega, by go_num, ⟨_, ((own_later HO.out HB2.out).stored k _).1, HA.out.step hlt⟩, (HB.out.trans (HB2.out.mono hsz)).setCell (p := ⟨w.heap.size + 1, k, none⟩) (Nat.le_refl _) _⟩
      case measure => simp [intOf]; omega
    · have hkn : k = n := by omega
      have hcs : ∀ i, i < n → wr.cell? ((⟨w.heap.size + 1, 0, none⟩ : Addr).add i) = some (.string (num (g i))) := fun i hi => by
        rw [add0]
        exact (hown.cellAt i (by omega)).trans (hha.2 i (by omega))
      have HCS := Lib.hid hcs
      have hnk : ¬ (k : Int) < (n : Int) := by omega
      clear hown hb hha hcs hkn
      go_wp2
      go_ret
      exact ⟨_, rfl, HCS.out, HB0.out.trans (HB.out.mono (by omega))⟩
end Go.Proofs.YtijilflnfdgdnaaDoor
