/- The contract of (*Parser).reset at a parser whose block is known: the block afterwards, cell by cell. Conditions: the block has 2088 cells, its heredocs cell holds a slice. -/
import Derived.Test.YtknilfihibmgdaaRows
import Derived.WalkKit
import Derived.WalkSpells
import Derived.WalkLawsBesides
import Derived.Lib.Hide
import Derived.RegionTactic
import Derived.BigRegion
import Derived.Outline
import Derived.Below
import Derived.Laws.Rows
namespace Go.Proofs.Ytknilfihibmgdaa
open Go.RowKit

/-- block b is a parser's, its cells are C -/
def PBlk (w : World) (b : Nat) (C : Array Value) : Prop := w.heap[b]? = some (.cells C 106 (0, 0))
theorem PBlk.lt {w : World} {b : Nat} {C : Array Value} (h : PBlk w b C) : b < w.heap.size := by
  rcases Nat.lt_or_ge b w.heap.size with hlt | hge
  · exact hlt
  · unfold PBlk at h; rw [Array.getElem?_eq_none hge] at h; cases h
theorem PBlk.cell {w : World} {b : Nat} {C : Array Value} (h : PBlk w b C) (i : Nat) : w.cell? ⟨b, i, none⟩ = C[i]? := cell_of_row w b i C _ (0, 0) h
theorem PBlk.free {w : World} {b : Nat} {C : Array Value} (h : PBlk w b C) (i : Nat) : w.frozen? ⟨b, i, none⟩ = false := by
  unfold PBlk at h
  simp [World.frozen?, h]
theorem PBlk.new (w : World) (C : Array Value) : PBlk (w.alloc (.cells C 106)) w.heap.size C := heap_alloc_new w _
theorem PBlk.drew {w : World} {b : Nat} {C : Array Value} (h : PBlk w b C) : PBlk w.drew b C := h
theorem PBlk.put {w : World} {b : Nat} {C : Array Value} (h : PBlk w b C) (i : Nat) (u : Value) : PBlk (w.setCell ⟨b, i, none⟩ u) b (C.setIfInBounds i u) := by
  unfold PBlk at h ⊢
  simp [World.setCell, Array.getElem?_modify, h]
theorem PBlk.below {w w' : World} {b B : Nat} {C : Array Value} (h : PBlk w b C) (hb : Below B w w') (hg : b < B) : PBlk w' b C := (hb.block b hg).trans h
/-- the value of one cell -/
theorem PBlk.some {w : World} {b : Nat} {C : Array Value} (h : PBlk w b C) (i : Nat) (hi : i < C.size) : ∃ v, w.cell? ⟨b, i, none⟩ = some v := ⟨_, (h.cell i).trans (Array.getElem?_eq_getElem hi)⟩

/-- reset's stores, in its text's order -/
def wiped (b : Nat) (hA : Option Addr) (hc : Nat) (C : Array Value) : Array Value :=
  ((((((((((((((((((((((((((((C.setIfInBounds 10 (.int .u32 0)).setIfInBounds 11 (.string ⟨#[]⟩)).setIfInBounds 18 (.int .i64 0)).setIfInBounds 1 (.slice none 0 0)).setIfInBounds 2 (.int .u64 0)).setIfInBounds 12 (.int .i64 0)).setIfInBounds 13 (.int .i64 1)).setIfInBounds 14 (.int .i64 1)).setIfInBounds 3 (.int .i32 0)).setIfInBounds 4 (.int .i64 0)).setIfInBounds 7 .nilIface).setIfInBounds 8 .nilIface).setIfInBounds 9 (.bool false)).setIfInBounds 17 (.int .u32 1)).setIfInBounds 24 (.bool false)).setIfInBounds 29 (.int .i64 0)).setIfInBounds 22 (.int .i64 0)).setIfInBounds 26 (.slice hA 0 hc)).setIfInBounds 25 (.int .i64 0)).setIfInBounds 27 (.slice none 0 0)).setIfInBounds 28 (.bool false)).setIfInBounds 30 (.int .i64 0)).setIfInBounds 31 (.int .i64 0)).setIfInBounds 35 (.slice none 0 0)).setIfInBounds 35 (.slice none 0 0)).setIfInBounds 36 (.pointer (some ⟨b, 35, none⟩))).setIfInBounds 37 (.slice none 0 0)).setIfInBounds 38 (.slice none 0 0)).setIfInBounds 2087 (.slice none 0 0)
/-- what reset leaves -/
def Wiped (w : World) (b : Nat) (hA : Option Addr) (hc : Nat) (C : Array Value) (e : Ending) (w' : World) : Prop :=
  e = .returned (.tuple #[]) ∧ PBlk w' b (wiped b hA hc C) ∧ ∀ B, B ≤ b → Below B w w'
set_option maxRecDepth 100000 in
set_option maxHeartbeats 4000000 in
theorem reset_any (b : Nat) (hA : Option Addr) (hn hc : Nat) (C : Array Value) (w : World) (hb : PBlk w b C) (hC : C.size = 2088) (hh : C[26]? = some (.slice hA hn hc)) (_hle : hn ≤ hc) (_hm : hc ≤ 9223372036854775807) :
    Calls Try.prog 52 #[.pointer (some ⟨b, 0, none⟩)] w (Wiped w b hA hc C) := by
  have f := hb.free
  obtain ⟨v10, c10⟩ := hb.some 10 (by omega)
  obtain ⟨v11, c11⟩ := hb.some 11 (by omega)
  obtain ⟨v18, c18⟩ := hb.some 18 (by omega)
  obtain ⟨v1, c1⟩ := hb.some 1 (by omega)
  obtain ⟨v2, c2⟩ := hb.some 2 (by omega)
  obtain ⟨v12, c12⟩ := hb.some 12 (by omega)
  obtain ⟨v13, c13⟩ := hb.some 13 (by omega)
  obtain ⟨v14, c14⟩ := hb.some 14 (by omega)
  obtain ⟨v3, c3⟩ := hb.some 3 (by omega)
  obtain ⟨v4, c4⟩ := hb.some 4 (by omega)
  obtain ⟨v7, c7⟩ := hb.some 7 (by omega)
  obtain ⟨v8, c8⟩ := hb.some 8 (by omega)
  obtain ⟨v9, c9⟩ := hb.some 9 (by omega)
  obtain ⟨v17, c17⟩ := hb.some 17 (by omega)
  obtain ⟨v24, c24⟩ := hb.some 24 (by omega)
  obtain ⟨v29, c29⟩ := hb.some 29 (by omega)
  obtain ⟨v22, c22⟩ := hb.some 22 (by omega)
  have c26 := (hb.cell 26).trans hh
  obtain ⟨v25, c25⟩ := hb.some 25 (by omega)
  obtain ⟨v27, c27⟩ := hb.some 27 (by omega)
  obtain ⟨v28, c28⟩ := hb.some 28 (by omega)
  obtain ⟨v30, c30⟩ := hb.some 30 (by omega)
  obtain ⟨v31, c31⟩ := hb.some 31 (by omega)
  obtain ⟨v35, c35⟩ := hb.some 35 (by omega)
  obtain ⟨v36, c36⟩ := hb.some 36 (by omega)
  obtain ⟨v37, c37⟩ := hb.some 37 (by omega)
  obtain ⟨v38, c38⟩ := hb.some 38 (by omega)
  obtain ⟨v87, c87⟩ := hb.some 2087 (by omega)
  have HB := Lib.hid hb
  have HC := Lib.hid hC
  clear hb hC hh
  go_enter Try.func52, Try.ntmps52
  go_wp2
  have hP := ((((((((((((((((((((((((HB.out.put 10 (.int .u32 0)).put 11 (.string ⟨#[]⟩)).put 18 (.int .i64 0)).put 1 (.slice none 0 0)).put 2 (.int .u64 0)).put 12 (.int .i64 0)).put 13 (.int .i64 1)).put 14 (.int .i64 1)).put 3 (.int .i32 0)).put 4 (.int .i64 0)).put 7 .nilIface).put 8 .nilIface).put 9 (.bool false)).put 17 (.int .u32 1)).put 24 (.bool false)).put 29 (.int .i64 0)).put 22 (.int .i64 0)).put 26 (.slice hA 0 hc)).put 25 (.int .i64 0)).put 27 (.slice none 0 0)).put 28 (.bool false)).put 30 (.int .i64 0)).put 31 (.int .i64 0)).put 35 (.slice none 0 0))
  have hL : ∀ B, B ≤ b → Below B w ((((((((((((((((((((((((w.setCell ⟨b, 10, none⟩ (.int .u32 0)).setCell ⟨b, 11, none⟩ (.string ⟨#[]⟩)).setCell ⟨b, 18, none⟩ (.int .i64 0)).setCell ⟨b, 1, none⟩ (.slice none 0 0)).setCell ⟨b, 2, none⟩ (.int .u64 0)).setCell ⟨b, 12, none⟩ (.int .i64 0)).setCell ⟨b, 13, none⟩ (.int .i64 1)).setCell ⟨b, 14, none⟩ (.int .i64 1)).setCell ⟨b, 3, none⟩ (.int .i32 0)).setCell ⟨b, 4, none⟩ (.int .i64 0)).setCell ⟨b, 7, none⟩ .nilIface).setCell ⟨b, 8, none⟩ .nilIface).setCell ⟨b, 9, none⟩ (.bool false)).setCell ⟨b, 17, none⟩ (.int .u32 1)).setCell ⟨b, 24, none⟩ (.bool false)).setCell ⟨b, 29, none⟩ (.int .i64 0)).setCell ⟨b, 22, none⟩ (.int .i64 0)).setCell ⟨b, 26, none⟩ (.slice hA 0 hc)).setCell ⟨b, 25, none⟩ (.int .i64 0)).setCell ⟨b, 27, none⟩ (.slice none 0 0)).setCell ⟨b, 28, none⟩ (.bool false)).setCell ⟨b, 30, none⟩ (.int .i64 0)).setCell ⟨b, 31, none⟩ (.int .i64 0)).setCell ⟨b, 35, none⟩ (.slice none 0 0)) := fun B hB => ((((((((((((((((((((((((Below.refl B w).setCell hB _).setCell hB _).setCell hB _).setCell hB _).setCell hB _).setCell hB _).setCell hB _).setCell hB _).setCell hB _).setCell hB _).setCell hB _).setCell hB _).setCell hB _).setCell hB _).setCell hB _).setCell hB _).setCell hB _).setCell hB _).setCell hB _).setCell hB _).setCell hB _).setCell hB _).setCell hB _).setCell hB _
  generalize ((((((((((((((((((((((((w.setCell ⟨b, 10, none⟩ (.int .u32 0)).setCell ⟨b, 11, none⟩ (.string ⟨#[]⟩)).setCell ⟨b, 18, none⟩ (.int .i64 0)).setCell ⟨b, 1, none⟩ (.slice none 0 0)).setCell ⟨b, 2, none⟩ (.int .u64 0)).setCell ⟨b, 12, none⟩ (.int .i64 0)).setCell ⟨b, 13, none⟩ (.int .i64 1)).setCell ⟨b, 14, none⟩ (.int .i64 1)).setCell ⟨b, 3, none⟩ (.int .i32 0)).setCell ⟨b, 4, none⟩ (.int .i64 0)).setCell ⟨b, 7, none⟩ .nilIface).setCell ⟨b, 8, none⟩ .nilIface).setCell ⟨b, 9, none⟩ (.bool false)).setCell ⟨b, 17, none⟩ (.int .u32 1)).setCell ⟨b, 24, none⟩ (.bool false)).setCell ⟨b, 29, none⟩ (.int .i64 0)).setCell ⟨b, 22, none⟩ (.int .i64 0)).setCell ⟨b, 26, none⟩ (.slice hA 0 hc)).setCell ⟨b, 25, none⟩ (.int .i64 0)).setCell ⟨b, 27, none⟩ (.slice none 0 0)).setCell ⟨b, 28, none⟩ (.bool false)).setCell ⟨b, 30, none⟩ (.int .i64 0)).setCell ⟨b, 31, none⟩ (.int .i64 0)).setCell ⟨b, 35, none⟩ (.slice none 0 0)) = W at *
  have g := hP.free
  have d35 : ∃ v, W.cell? ⟨b, 35, none⟩ = some v := hP.some 35 (by have := HC.out; simp; omega)
  have d36 : ∃ v, W.cell? ⟨b, 36, none⟩ = some v := hP.some 36 (by have := HC.out; simp; omega)
  have d37 : ∃ v, W.cell? ⟨b, 37, none⟩ = some v := hP.some 37 (by have := HC.out; simp; omega)
  have d38 : ∃ v, W.cell? ⟨b, 38, none⟩ = some v := hP.some 38 (by have := HC.out; simp; omega)
  have d87 : ∃ v, W.cell? ⟨b, 2087, none⟩ = some v := hP.some 2087 (by have := HC.out; simp; omega)
  obtain ⟨u35, d35⟩ := d35
  obtain ⟨u36, d36⟩ := d36
  obtain ⟨u37, d37⟩ := d37
  obtain ⟨u38, d38⟩ := d38
  obtain ⟨u87, d87⟩ := d87
  have HP := Lib.hid hP
  have HL := Lib.hid hL
  clear hP hL f c1 c2 c3 c4 c7 c8 c9 c10 c11 c12 c13 c14 c17 c18 c22 c24 c25 c26 c27 c28 c29 c30 c31 c35 c36 c37 c38 c87
  go_region
  all_goals
    go_wp2
    go_end0
    exact ⟨rfl, (((((HP.out.put 35 (.slice none 0 0)).put 36 (.pointer (some ⟨b, 35, none⟩))).put 37 (.slice none 0 0)).put 38 (.slice none 0 0)).put 2087 (.slice none 0 0)).drew, fun B hB => (((((((HL.out B hB).setCell hB _).setCell hB _).setCell hB _).setCell hB _).setCell hB _).drew)⟩
theorem wiped_size (b : Nat) (hA : Option Addr) (hc : Nat) (C : Array Value) : (wiped b hA hc C).size = C.size := by simp only [wiped, Array.size_setIfInBounds]
theorem wiped_at (b : Nat) (hA : Option Addr) (hc : Nat) (C : Array Value) (h : C.size = 2088) : (wiped b hA hc C)[29]? = some (.int .i64 0) ∧ (wiped b hA hc C)[2087]? = some (.slice none 0 0) ∧ (wiped b hA hc C)[26]? = some (.slice hA 0 hc) := by
  refine ⟨?_, ?_, ?_⟩ <;> (simp [wiped, h])
set_option maxHeartbeats 1000000 in
theorem zzReset_any (b : Nat) (hA : Option Addr) (hn hc : Nat) (C : Array Value) (w : World) (hb : PBlk w b C) (hC : C.size = 2088) (hh : C[26]? = some (.slice hA hn hc)) (hle : hn ≤ hc) (hm : hc ≤ 9223372036854775807) :
    Calls Try.prog 28 #[.pointer (some ⟨b, 0, none⟩)] w (Wiped w b hA hc C) := by
  have HB := Lib.hid hb
  have HC := Lib.hid hC
  have HH := Lib.hid hh
  clear hb hC hh
  go_enter Try.func28, Try.ntmps28
  go_wp2_with (go_at_call 52; refine (reset_any b hA hn hc C _ HB.out HC.out HH.out hle hm).mono ?_; rintro e w' ⟨rfl, hq⟩
               have HQ := Lib.hid hq; clear hq)
  go_end0
  exact ⟨rfl, HQ.out⟩
set_option maxHeartbeats 1000000 in
theorem incomplete_not (b : Nat) (w : World) (c1 : w.cell? ⟨b, 29, none⟩ = some (.int .i64 0)) (c2 : w.cell? ⟨b, 2087, none⟩ = some (.slice none 0 0)) :
    Calls Try.prog 29 #[.pointer (some ⟨b, 0, none⟩)] w fun e w' => e = .returned (.bool false) ∧ w = w' := by
  go_enter Try.func29, Try.ntmps29
  go_wp2
  go_ret
  exact ⟨rfl, rfl⟩
end Go.Proofs.Ytknilfihibmgdaa
