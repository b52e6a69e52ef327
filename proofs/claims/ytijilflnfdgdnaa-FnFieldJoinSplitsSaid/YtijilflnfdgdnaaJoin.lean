/- The contracts of zzParts, Config.strBuilder, Config.fieldJoin and ZZfieldJoin of n010_52: the joined text is the parts' texts in their order. Conditions: the rows that are read, and that they are not too long in all. -/
import Derived.Test.YtijilflnfdgdnaaFieldB
import Derived.Test.YtijilflnfdgdnaaSlices
import Derived.OwnWalk
import Derived.Deep.QuietTactic
import Derived.BigQuiet
namespace Go.Proofs.Ytijilflnfdgdnaa
open Go.RowKit
namespace FJ

theorem infoP : (Try.prog.info? 69).map (fun i => (i.zero, i.size, i.bytes)) = some (some (.agg #[.string ⟨#[]⟩, .int .u64 0]), 2, 24) := by kernel_rfl
/-- n parts lie in block g: their texts are f -/
def PRow (w : World) (g n : Nat) (f : Nat → ByteArray) : Prop := ∀ i, i < n → w.cell? ⟨g, i * 2, none⟩ = some (.string (f i)) ∧ ∃ v : Int, w.cell? ⟨g, i * 2 + 1, none⟩ = some (.int .u64 v)
theorem PRow.below {w w' : World} {g n : Nat} {f : Nat → ByteArray} (h : PRow w g n f) (hb : Below w.heap.size w w') : PRow w' g n f := fun i hi => by
  obtain ⟨h1, v, h2⟩ := h i hi
  exact ⟨cell_later hb h1, v, cell_later hb h2⟩
/-- what zzParts leaves -/
def PartsV (n : Nat) (f : Nat → ByteArray) (w : World) (e : Ending) (w' : World) : Prop := e = .returned (.slice (some ⟨w.heap.size, 0, none⟩) n n) ∧ PRow w' w.heap.size n f ∧ Below w.heap.size w w'
/-- the row behind k rounds -/
def Half (xs : List Value) (n k : Nat) (f : Nat → ByteArray) : Prop := xs.length = n * 2 ∧ ∀ i, i < k → xs[i * 2]? = some (.string (f i)) ∧ ∃ v : Int, xs[i * 2 + 1]? = some (.int .u64 v)
theorem Half.step {xs : List Value} {n k : Nat} {f : Nat → ByteArray} (h : Half xs n k f) (hk : k < n) (v : Int) : Half ((xs.set (k * 2) (.string (f k))).set (k * 2 + 1) (.int .u64 v)) n (k + 1) f := by
  obtain ⟨hl, hh⟩ := h
  refine ⟨by simpa using hl, fun i hi => ?_⟩
  rcases Nat.lt_or_ge i k with h | h
  · obtain ⟨h1, u, h2⟩ := hh i h
    refine ⟨?_, u, ?_⟩
    · rw [List.getElem?_set_ne (by omega), List.getElem?_set_ne (by omega)]; exact h1
    · rw [List.getElem?_set_ne (by omega), List.getElem?_set_ne (by omega)]; exact h2
  · obtain rfl : i = k := by omega
    refine ⟨?_, v, ?_⟩
    · rw [List.getElem?_set_ne (by omega), List.getElem?_set_self (by omega)]
    · rw [List.getElem?_set_self (by simp; omega)]
theorem Half.at {xs : List Value} {n k : Nat} {f : Nat → ByteArray} (h : Half xs n k f) (j : Nat) (hj : j < n * 2) : ∃ v, xs[j]? = some v := ⟨_, List.getElem?_eq_getElem (by rw [h.1]; exact hj)⟩
set_option maxRecDepth 100000 in
set_option maxHeartbeats 4000000 in
theorem parts_any (a qa : Option Addr) (n c m d : Nat) (f : Nat → ByteArray) (q : Nat → Int) (w : World) (hS : SRow w a n f) (hQ : IRow .u8 w qa m q) (hn : n ≤ 1048576) (hm : m ≤ 1048576) :
    Calls Try.prog 30 #[.slice a n c, .slice qa m d] w (PartsV n f w) := by
  obtain ⟨ii, hi, hz0, hz1, hz2⟩ := info_parts infoP
  have HS := Lib.hid hS
  have HQ := Lib.hid hQ
  clear hS hQ
  go_enter Try.func30, Try.ntmps30
  go_wp2_with (at_make; refine wpList_make_full _ rfl _ _ _ rfl w.heap.size 69 ii (.agg #[.string ⟨#[]⟩, .int .u64 0]) 2 Try.underlying71 hi hz0 hz1 .i64 .i64 _ _ n rfl rfl rfl rfl (by rw [hz2]; omega) (by unfold maxLen; omega) (Nat.le_refl _) ?_; intro w1 hown hgrow)
  have hB : Below w.heap.size w w1 := (Below.refl _ _).grown hgrow (Nat.le_refl _) (fun k hk => by cases hk)
  have hH : ∃ xs, w1.ownsRow w.heap.size 69 2 (.slice (some ⟨w.heap.size, 0, none⟩) n n) n xs ∧ Half xs n 0 f :=
    ⟨_, hown, by simp [size_madeCells], fun i h => by omega⟩
  have HH := Lib.hid hH
  clear hown hgrow hH
  go_loopw [13] (fun i wr => ∃ k : Nat, k ≤ n ∧ i = .int .i64 k ∧ (∃ xs, wr.ownsRow w.heap.size 69 2 (.slice (some ⟨w.heap.size, 0, none⟩) n n) n xs ∧ Half xs n k f) ∧ Below w.heap.size w wr) (fun i _ => n - (intOf i).toNat)
  case atStart => exact ⟨0, Nat.zero_le _, rfl, HH.out, hB⟩
  case round =>
    obtain ⟨k, hk, rfl, ⟨xs, hown, hha⟩, hb⟩ := hrel
    have HO := Lib.hid hown
    have HB := Lib.hid hb
    have HA := Lib.hid hha
    by_cases hlt : k < n
    · obtain ⟨v0, hv0⟩ := hha.at (k * 2) (by omega)
      obtain ⟨v1, hv1⟩ := hha.at (k * 2 + 1) (by omega)
      have hc0 := hown.cellAt (k * 2) (by omega)
      have hc1 := hown.cellAt (k * 2 + 1) (by omega)
      rw [hv0] at hc0
      rw [hv1] at hc1
      have hf0 := hown.frozenAt (k * 2)
      have hf1 := hown.frozenAt (k * 2 + 1)
      obtain ⟨x, rfl, hsrc⟩ := (HS.out.below hb) k hlt
      have i0 : (0 : Int) ≤ (k : Int) := by omega
      have i1 : (k : Int) < (n : Int) := by omega
      by_cases hq : k < m
      · obtain ⟨y, rfl, hqs⟩ := (HQ.out.below hb) k hq
        have i2 : (k : Int) < (m : Int) := by omega
        clear hown hb hha hv0 hv1 hB
        go_wp2
        go_roundw
        case rel => exact ⟨k + 1, by omega, by go_num, ⟨_, ((HO.out.stored (k * 2) _).1.stored (k * 2 + 1) _).1, HA.out.step hlt _⟩, (HB.out.setCell (Nat.le_refl _) _).setCell (Nat.le_refl _) _⟩
        case measure => simp [intOf]; omega
      · have i2 : ¬ (k : Int) < (m : Int) := by omega
        clear hown hb hha hv0 hv1 hB
        go_wp2
        go_roundw
        case rel => exact ⟨k + 1, by omega, by go_num, ⟨_, ((HO.out.stored (k * 2) _).1.stored (k * 2 + 1) _).1, HA.out.step hlt _⟩, (HB.out.setCell (Nat.le_refl _) _).setCell (Nat.le_refl _) _⟩
        case measure => simp [intOf]; omega
    · have hkn : k = n := by omega
      have hcs : PRow wr w.heap.size n f := fun i hi => by
        have h0 := hown.cellAt (i * 2) (by omega)
        have h1 := hown.cellAt (i * 2 + 1) (by omega)
        obtain ⟨e0, v, e1⟩ := hha.2 i (by omega)
        exact ⟨h0.trans e0, v, h1.trans e1⟩
      have HCS := Lib.hid hcs
      have hnk : ¬ (k : Int) < (n : Int) := by omega
      clear hown hb hha hcs hB hkn
      go_wp2
      go_ret
      exact ⟨rfl, HCS.out, HB.out⟩
/-- the first n texts, one behind the other -/
def cat (f : Nat → ByteArray) : Nat → List UInt8
  | 0 => []
  | n + 1 => cat f n ++ (f n).data.toList
theorem strBuilder_any (B b : Nat) (p v : Value) (w : World) (h : FB.CAt b p v w) :
    Calls Try.prog 33 #[.pointer (some ⟨b, 0, none⟩)] w fun e w' => e = .returned (.pointer (some ⟨b, 11, none⟩)) ∧ FB.FAt B b (.pointer none) [] w' ∧ FB.Kept B b w w' := by
  have H := Lib.hid h
  clear h
  go_enter Try.func33, Try.ntmps33
  go_wp2_with (go_at_call 37; refine (FB.reset_any B b p v _ H.out).mono ?_; rintro e w1 ⟨rfl, h1, h2⟩)
  go_ret
  exact ⟨rfl, h1, h2⟩
theorem byteCells_str (s : ByteArray) : Lib.strCells s = Lib.byteCells s.data.toList := rfl
theorem byteCells_app (a b : List UInt8) : Lib.byteCells (a ++ b) = Lib.byteCells a ++ Lib.byteCells b := by simp [Lib.byteCells]
/-- what fieldJoin hands back -/
def JoinV (f : Nat → ByteArray) (n : Nat) (B b : Nat) (w : World) (e : Ending) (w' : World) : Prop := e = .returned (.string ⟨(cat f n).toArray⟩) ∧ FB.Kept B b w w'
set_option maxRecDepth 100000 in
set_option maxHeartbeats 4000000 in
theorem join_any (b g n c : Nat) (p v : Value) (f : Nat → ByteArray) (w : World) (hC : FB.CAt b p v w) (hP : PRow w g n f) (hgb : g ≠ b) (hn : n ≤ 1048576) (hlen : ∀ k, k ≤ n → (cat f k).length ≤ 1048576) (hf : ∀ k, k < n → (f k).size ≤ 1048576) :
    Calls Try.prog 29 #[.pointer (some ⟨b, 0, none⟩), .slice (some ⟨g, 0, none⟩) n c] w (JoinV f n w.heap.size b w) := by
  have HC := Lib.hid hC
  have HP := Lib.hid hP
  have HL := Lib.hid hlen
  have HF := Lib.hid hf
  clear hC hP hlen hf
  by_cases h0 : n = 0
  · subst h0
    go_enter Try.func29, Try.ntmps29
    go_wp2
    go_ret
    exact ⟨rfl, FB.Kept.refl _ _ _⟩
  by_cases h1 : n = 1
  · subst h1
    obtain ⟨c0, u, c1⟩ := HP.out 0 (by omega)
    simp only [Nat.zero_mul, Nat.zero_add] at c0 c1
    go_enter Try.func29, Try.ntmps29
    go_wp2
    go_ret
    exact ⟨by simp [cat], FB.Kept.refl _ _ _⟩
  have e0 : ((n : Int) == 0) = false := by simp; omega
  have e1 : ((n : Int) == 1) = false := by simp; omega
  have hgl : g < w.heap.size := World.block_lt_of_cell? w _ (HP.out 0 (by omega)).1
  have HN0 := Lib.hid h0
  have HN1 := Lib.hid h1
  clear h0 h1
  go_enter Try.func29, Try.ntmps29
  go_wp2_with (go_at_call 33; refine (strBuilder_any w.heap.size b p v _ HC.out).mono ?_; rintro e w1 ⟨rfl, hfa, hk⟩; have HA := Lib.hid hfa; have HK := Lib.hid hk; clear hfa hk)
  go_loopw [22] (fun i wr => ∃ (k : Nat) (q : Value), k ≤ n ∧ i = .int .i64 k ∧ (q = .pointer none ∨ q = FB.self b) ∧ FB.FAt w.heap.size b q (Lib.byteCells (cat f k)) wr ∧ FB.Kept w.heap.size b w wr) (fun i _ => n - (intOf i).toNat)
  case atStart => exact ⟨0, _, Nat.zero_le _, rfl, .inl rfl, HA.out, HK.out⟩
  case round =>
    obtain ⟨k, q, hk, rfl, hq, hfa, hkk⟩ := hrel
    have HQ := Lib.hid hq
    have HA2 := Lib.hid hfa
    have HK2 := Lib.hid hkk
    have hsz := hkk.size
    clear hq hfa hkk
    by_cases hlt : k < n
    · obtain ⟨c0, u, c1⟩ := HP.out k hlt
      have d0 : wr.cell? ⟨g, k * 2, none⟩ = some (.string (f k)) := HK2.out.cell (a := ⟨g, k * 2, none⟩) hgl hgb c0
      have d1 : wr.cell? ⟨g, k * 2 + 1, none⟩ = some (.int .u64 u) := HK2.out.cell (a := ⟨g, k * 2 + 1, none⟩) hgl hgb c1
      have i0 : (0 : Int) ≤ (k : Int) := by omega
      have i1 : (k : Int) < (n : Int) := by omega
      clear c0 c1
      have hl1 : (Lib.byteCells (cat f k)).length + (f k).size ≤ 140737488355328 := by
        have a1 := HL.out k hk
        have a2 := HF.out k hlt
        rw [Lib.byteCells_length]; omega
      go_wp2_with (go_at_call 34; refine (FB.write_any w.heap.size b q (Lib.byteCells (cat f k)) (f k) _ HQ.out (HA2.out.alloc _) hl1 (by simp; omega)).mono ?_; rintro e w2 ⟨rfl, hfa2, hk2⟩; have HA3 := Lib.hid hfa2; have HK3 := Lib.hid hk2; clear hfa2 hk2)
      go_roundw
      case rel =>
        refine ⟨k + 1, _, by omega, by go_num, .inr rfl, ?_, (HK2.out.trans (FB.Kept.of ((Below.refl _ _).alloc hsz _))).trans HK3.out⟩
        have := HA3.out
        rw [byteCells_str, ← byteCells_app] at this
        exact this
      case measure => simp [intOf]; omega
    · have hnk : ¬ (k : Int) < (n : Int) := by omega
      have hkn : k = n := by omega
      have HA3 : Hid (FB.FAt w.heap.size b q (Lib.byteCells (cat f n)) wr) := Lib.hid (hkn ▸ HA2.out)
      clear hkn
      go_wp2_with (go_at_call 35; refine (FB.string_any w.heap.size b q (cat f n) _ HA3.out hsz).mono ?_; rintro e w2 ⟨rfl, hk3⟩; have HK3 := Lib.hid hk3; clear hk3)
      go_ret
      exact ⟨rfl, HK2.out.trans HK3.out⟩
theorem built_cfg : (Try.prog.built 75 []).map (fun C => (C.size, C[11]?, C[12]?)) = some (27, some (.pointer none), some (.slice none 0 0)) := by kernel_rfl
/-- what ZZfieldJoin hands back -/
def ZJoinV (f : Nat → ByteArray) (n : Nat) (w : World) (e : Ending) (w' : World) : Prop := e = .returned (.string ⟨(cat f n).toArray⟩) ∧ Below w.heap.size w w'
set_option maxRecDepth 100000 in
set_option maxHeartbeats 2000000 in
theorem zjoin_any (a qa : Option Addr) (n c m d : Nat) (f : Nat → ByteArray) (q : Nat → Int) (w : World) (hS : SRow w a n f) (hQ : IRow .u8 w qa m q) (hn : n ≤ 1048576) (hm : m ≤ 1048576) (hlen : ∀ k, k ≤ n → (cat f k).length ≤ 1048576) (hf : ∀ k, k < n → (f k).size ≤ 1048576) :
    Calls Try.prog 16 #[.slice a n c, .slice qa m d] w (ZJoinV f n w) := by
  have HS := Lib.hid hS
  have HQ := Lib.hid hQ
  have HL := Lib.hid hlen
  have HF := Lib.hid hf
  clear hS hQ hlen hf
  go_enter Try.func16, Try.ntmps16
  go_wp2_with (first
    | (go_at_call 30; refine (parts_any a qa n c m d f q _ (HS.out.below ((Below.refl _ _).alloc (Nat.le_refl _) _)) (HQ.out.below ((Below.refl _ _).alloc (Nat.le_refl _) _)) hn hm).mono ?_; rintro e w1 ⟨rfl, hp, hb⟩
       have HP : Hid (PRow w1 (w.heap.size + 1) n f) := Lib.hid (by simpa using hp)
       have HC : Hid (FB.CAt w.heap.size (.pointer none) (.slice none 0 0) w1) := Lib.hid ((FB.CAt.new w rfl rfl rfl).later hb)
       have HB : Hid (Below w.heap.size w w1) := Lib.hid (((Below.refl _ _).alloc (Nat.le_refl _) _).trans (hb.mono (by simp)))
       clear hp hb)
    | (go_at_call 29; refine (join_any w.heap.size (w.heap.size + 1) n n _ _ f _ HC.out HP.out (by omega) hn HL.out HF.out).mono ?_; rintro e w2 ⟨rfl, hk⟩; have HK := Lib.hid hk; clear hk))
  go_ret
  exact ⟨rfl, HB.out.trans (HK.out.1.mono (by have := HB.out.size; omega))⟩
end FJ
end Go.Proofs.Ytijilflnfdgdnaa
