/- The contracts of a strings.Builder that lies in a field of a block of the call's own (two cells from 11 on, in a struct of 27 cells): Reset, copyCheck, WriteString, String. Conditions: the builder is as each contract names it. -/
import Derived.Test.YtijilflnfdgdnaaRows
import Derived.WalkKit
import Derived.WalkSpells
import Derived.WalkLawsBesides
import Derived.Lib.Hide
import Derived.Outline
import Derived.Below
import Derived.Lib.Builder
import Derived.Lib.AppendStr
import Derived.Lib.UnsafeStr
import Derived.Laws.Externs
import Derived.RegionTactic
import Derived.BigRegion
import Derived.RangeFuncRecord
namespace Go.Proofs.Ytijilflnfdgdnaa
open Go.RowKit
namespace FB

/-- the struct in block b, whose builder's two cells hold p and v -/
def CAt (b : Nat) (p v : Value) (w : World) : Prop := ∃ C : Array Value, C.size = 27 ∧ C[11]? = some p ∧ C[12]? = some v ∧ w.heap[b]? = some (.cells C 75 (0, 0))
/-- .. whose builder owns the bytes bs -/
def FAt (B b : Nat) (p : Value) (bs : List Value) (w : World) : Prop := ∃ v, CAt b p v w ∧ w.ownsRow B 5 1 v bs.length bs
def self (b : Nat) : Value := .pointer (some ⟨b, 11, none⟩)

theorem CAt.lt {b : Nat} {p v : Value} {w : World} (h : CAt b p v w) : b < w.heap.size := by
  obtain ⟨C, _, _, _, hb⟩ := h
  exact (Array.getElem?_eq_some_iff.1 hb).1
theorem CAt.c0 {b : Nat} {p v : Value} {w : World} (h : CAt b p v w) : w.cell? ⟨b, 11, none⟩ = some p := by
  obtain ⟨C, _, h1, _, hb⟩ := h
  rw [Lib.cell_of_heap hb]; exact h1
theorem CAt.c1 {b : Nat} {p v : Value} {w : World} (h : CAt b p v w) : w.cell? ⟨b, 12, none⟩ = some v := by
  obtain ⟨C, _, _, h2, hb⟩ := h
  rw [Lib.cell_of_heap hb]; exact h2
theorem CAt.fz {b : Nat} {p v : Value} {w : World} (h : CAt b p v w) (j : Nat) : w.frozen? ⟨b, j, none⟩ = false := by
  obtain ⟨C, _, _, _, hb⟩ := h
  exact Lib.frozen_of_heap hb j
theorem CAt.sh {b : Nat} {p v : Value} {w : World} (h : CAt b p v w) : w.shape? b = some (75, 27) := by
  obtain ⟨C, hs, _, _, hb⟩ := h
  simp [World.shape?, hb, hs]
theorem CAt.ne {b B : Nat} {p v u : Value} {w : World} {n : Nat} {xs : List Value} (h : CAt b p v w) (hown : w.ownsRow B 5 1 u n xs) : u.ownBlock ≠ some b := by
  obtain ⟨C, _, _, _, hb⟩ := h
  exact Lib.ownBlock_ne hown hb (by decide)
theorem CAt.set0 {b : Nat} {p v : Value} {w : World} (h : CAt b p v w) (q : Value) : CAt b q v (w.setCell ⟨b, 11, none⟩ q) := by
  obtain ⟨C, hs, h1, h2, hb⟩ := h
  refine ⟨C.setIfInBounds 11 q, by simpa using hs, by simp [hs], by simpa using h2, ?_⟩
  simp [World.setCell, Array.getElem?_modify, hb]
theorem CAt.set1 {b : Nat} {p v : Value} {w : World} (h : CAt b p v w) (q : Value) : CAt b p q (w.setCell ⟨b, 12, none⟩ q) := by
  obtain ⟨C, hs, h1, h2, hb⟩ := h
  refine ⟨C.setIfInBounds 12 q, by simpa using hs, by simpa using h1, by simp [hs], ?_⟩
  simp [World.setCell, Array.getElem?_modify, hb]
theorem CAt.grown {b : Nat} {p v : Value} {w w' : World} {row : Option Nat} (h : CAt b p v w) (hg : w.grownBy w' row) (hne : row ≠ some b) : CAt b p v w' := by
  obtain ⟨C, hs, h1, h2, hb⟩ := h
  exact ⟨C, hs, h1, h2, (hg.block b (Array.getElem?_eq_some_iff.1 hb).1 (fun e => hne e.symm)).trans hb⟩
theorem CAt.later {b : Nat} {p v : Value} {w w' : World} (h : CAt b p v w) (hb : Below w.heap.size w w') : CAt b p v w' := by
  obtain ⟨C, hs, h1, h2, hh⟩ := h
  exact ⟨C, hs, h1, h2, (hb.block b (Array.getElem?_eq_some_iff.1 hh).1).trans hh⟩
theorem CAt.new {C : Array Value} {p v : Value} (w : World) (hs : C.size = 27) (h1 : C[11]? = some p) (h2 : C[12]? = some v) : CAt w.heap.size p v (w.alloc (.cells C 75)) := ⟨C, hs, h1, h2, World.alloc_heap_new w _⟩
theorem grown_set (w : World) (b i : Nat) (q : Value) : w.grownBy (w.setCell ⟨b, i, none⟩ q) (some b) :=
  ⟨rfl, rfl, rfl, by simp [World.setCell], fun k _ hk => Below.heap_setCell _ _ _ _ (fun e => hk (by simp [e]))⟩
/-- whatever lies below B stands, but for block b -/
def Kept (B b : Nat) (w w' : World) : Prop := Below (min B b) w w' ∧ ∀ j, j < B → j ≠ b → w'.heap[j]? = w.heap[j]?
theorem Kept.refl (B b : Nat) (w : World) : Kept B b w w := ⟨Below.refl _ _, fun _ _ _ => rfl⟩
theorem Kept.trans {B b : Nat} {w w1 w2 : World} (h : Kept B b w w1) (k : Kept B b w1 w2) : Kept B b w w2 := ⟨h.1.trans k.1, fun j hj hn => (k.2 j hj hn).trans (h.2 j hj hn)⟩
theorem Kept.of {B b : Nat} {w w' : World} (h : Below B w w') : Kept B b w w' := ⟨h.mono (Nat.min_le_left _ _), fun j hj _ => h.block j hj⟩
theorem Kept.set (B b i : Nat) (w : World) (q : Value) : Kept B b w (w.setCell ⟨b, i, none⟩ q) :=
  ⟨(Below.refl _ w).setCell (p := ⟨b, i, none⟩) (Nat.min_le_right _ _) q, fun j _ hn => Below.heap_setCell _ _ _ _ hn⟩
theorem Kept.size {B b : Nat} {w w' : World} (h : Kept B b w w') : w.heap.size ≤ w'.heap.size := h.1.size
theorem Kept.cell {B b : Nat} {w w' : World} (h : Kept B b w w') {a : Addr} {v : Value} (ha : a.block < B) (hn : a.block ≠ b) (hc : w.cell? a = some v) : w'.cell? a = some v := by
  rw [← hc]
  unfold World.cell?
  rw [h.2 a.block ha hn]
theorem FAt.lt {B b : Nat} {p : Value} {bs : List Value} {w : World} (h : FAt B b p bs w) : b < w.heap.size := by
  obtain ⟨v, hc, _⟩ := h
  exact hc.lt

theorem FAt.alloc {B b : Nat} {p : Value} {bs : List Value} {w : World} (h : FAt B b p bs w) (o : Obj) : FAt B b p bs (w.alloc o) := by
  obtain ⟨v, hc, ho⟩ := h
  exact ⟨v, hc.grown (World.grownBy_alloc w o none) (by simp), ho.alloc o⟩

theorem infoB : (Try.prog.info? 66).map (·.size) = some 2 := by kernel_rfl
theorem infoByte : (Try.prog.info? 5).map (fun i => (i.zero, i.size, i.bytes)) = some (some (.int .u8 0), 1, 1) := by kernel_rfl
theorem cellsByte : Try.prog.cellsOf 5 = 1 := by kernel_rfl
theorem liesB : liesAt Try.prog Try.prog.depth 75 (27 / Try.prog.cellsOf 75) 11 66 1 = true := by kernel_rfl

set_option maxHeartbeats 1000000 in
theorem reset_any (B b : Nat) (p v : Value) (w : World) (h : CAt b p v w) :
    Calls Try.prog 37 #[.pointer (some ⟨b, 11, none⟩)] w fun e w' => e = .returned (.tuple #[]) ∧ FAt B b (.pointer none) [] w' ∧ Kept B b w w' := by
  have c0 := h.c0
  have c1 := h.c1
  have f0 := h.fz 11
  have f1 := h.fz 12
  have H := Lib.hid ((h.set0 (.pointer none)).set1 (.slice none 0 0))
  clear h
  go_enter Try.func37, Try.ntmps37
  go_wp2
  go_end0
  exact ⟨rfl, ⟨_, H.out, World.ownsRow_nil _ _ _ _⟩, (Kept.set B b 11 w _).trans (Kept.set B b 12 _ _)⟩

set_option maxHeartbeats 1000000 in
set_option maxRecDepth 100000 in
theorem check_used (b : Nat) (w : World) (v : Value) (h : CAt b (self b) v w) :
    Calls Try.prog 38 #[.pointer (some ⟨b, 11, none⟩)] w fun e w' => e = .returned (.tuple #[]) ∧ w = w' := by
  obtain ⟨j, hj, _⟩ := Option.map_eq_some_iff.1 infoB
  have c0 := h.c0
  unfold self at c0
  clear h
  go_enter Try.func38, Try.ntmps38
  go_wp2
  rw [Lib.run_neq_ptr_same w _ Try.underlying64 hj]
  go_wp2
  go_end0
  exact ⟨rfl, rfl⟩
set_option maxHeartbeats 1000000 in
set_option maxRecDepth 100000 in
theorem check_fresh (b : Nat) (w : World) (v : Value) (h : CAt b (.pointer none) v w) :
    Calls Try.prog 38 #[.pointer (some ⟨b, 11, none⟩)] w fun e w' => e = .returned (.tuple #[]) ∧ w.setCell ⟨b, 11, none⟩ (self b) = w' := by
  obtain ⟨j, hj, hjs⟩ := Option.map_eq_some_iff.1 infoB
  have c0 := h.c0
  have f0 := h.fz 11
  have hsh := h.sh
  clear h
  go_enter Try.func38, Try.ntmps38
  go_wp2
  rw [Lib.run_to_unsafe w ⟨b, 11, none⟩ Try.underlying64 Try.underlying105 hj (by rw [hjs]; decide) hsh (by show 11 < 27; omega)]
  simp only [Result.andThen]
  rw [Oper.upon_value]
  go_wp2
  rw [run_callFunc_extern Try.func41 (by kernel_rfl) (by kernel_rfl) (by kernel_rfl) (e := Extern.AbiNoEscape.same) (by kernel_rfl)]
  rw [Lib.run_noEscape]
  simp only [Result.andThen]
  rw [Oper.upon_value]
  go_wp2
  rw [Lib.run_from_unsafe w ⟨b, 11, none⟩ Try.underlying105 Try.underlying64 hj hsh liesB]
  simp only [Result.andThen]
  rw [Oper.upon_value]
  go_wp2
  go_end0
  exact ⟨rfl, rfl⟩
theorem check_any (B b : Nat) (p : Value) (bs : List Value) (w : World) (hp : p = .pointer none ∨ p = self b) (h : FAt B b p bs w) :
    Calls Try.prog 38 #[.pointer (some ⟨b, 11, none⟩)] w fun e w' => e = .returned (.tuple #[]) ∧ FAt B b (self b) bs w' ∧ Kept B b w w' := by
  obtain ⟨v, hc, hown⟩ := h
  rcases hp with rfl | rfl
  · refine (check_fresh b w v hc).mono ?_
    rintro e w' ⟨rfl, rfl⟩
    exact ⟨rfl, ⟨v, hc.set0 _, hown.kept (grown_set w b 11 _) (.inr (hc.ne hown))⟩, Kept.set B b 11 w _⟩
  · refine (check_used b w v hc).mono ?_
    rintro e w' ⟨rfl, rfl⟩
    exact ⟨rfl, ⟨v, hc, hown⟩, Kept.refl _ _ _⟩

set_option maxHeartbeats 2000000 in
set_option maxRecDepth 100000 in
theorem write_any (B b : Nat) (p : Value) (bs : List Value) (s : ByteArray) (w : World) (hp : p = .pointer none ∨ p = self b) (h : FAt B b p bs w) (hlen : bs.length + s.size ≤ 140737488355328) (hBw : B ≤ w.heap.size) :
    Calls Try.prog 34 #[.pointer (some ⟨b, 11, none⟩), .string s] w fun e w' => e = .returned (.tuple #[.int .i64 s.size, .nilIface]) ∧ FAt B b (self b) (bs ++ Lib.strCells s) w' ∧ Kept B b w w' := by
  obtain ⟨i0, hi, hz0, hz1, hz2⟩ := info_parts infoByte
  have H := Lib.hid h
  clear h
  go_enter Try.func34, Try.ntmps34
  go_wp2_with (go_at_call 38; refine (check_any B b p bs _ hp H.out).mono ?_)
  rintro e w1 ⟨rfl, ⟨v, hcat, hown⟩, hb1⟩
  have c1 := hcat.c1
  go_wp2_with (at_builtin; refine Lib.wpList_append_own_string _ rfl _ _ 33 9 rfl B 5 i0 Try.underlying33 Try.underlying9 hi hz0 hz1 hz2 _ _ _ rfl hown s rfl ?c3 ?c4 ?c5 ?_)
  case c3 => unfold maxLen; omega
  case c4 => omega
  case c5 => have := hb1.size; omega
  intro v' w2 hown' hgrow _
  have hca2 := hcat.grown hgrow (hcat.ne hown)
  have d1 := hca2.c1
  have f1 := hca2.fz 12
  obtain ⟨ao, n', cap, rfl⟩ : ∃ ao n' cap, v' = .slice ao n' cap := by
    rcases hown'.2 with ⟨hv, _⟩ | ⟨g, cap, cur, hv, _⟩
    · exact ⟨_, _, _, hv⟩
    · exact ⟨_, _, _, hv⟩
  have HC := Lib.hid hca2
  have HO := Lib.hid hown'
  have HX := Lib.hid (hca2.ne hown')
  have HB2 := Lib.hid (hb1.trans (Kept.of ((Below.refl B w1).grown hgrow (by have := hb1.size; omega) (fun k hk => (hown.lt k hk).1))))
  clear hca2 hown' hown hcat hgrow hb1
  go_wp2
  go_ret2
  refine ⟨rfl, ⟨_, HC.out.set1 _, ?_⟩, HB2.out.trans (Kept.set B b 12 _ _)⟩
  have := HO.out.kept (grown_set w2 b 12 (.slice ao n' cap)) (.inr HX.out)
  simpa [Lib.strCells_length] using this
set_option maxHeartbeats 2000000 in
set_option maxRecDepth 100000 in
theorem string_some (B b : Nat) (p : Value) (l : List UInt8) (w : World) (h : FAt B b p (Lib.byteCells l) w) (h0 : l ≠ []) :
    Calls Try.prog 35 #[.pointer (some ⟨b, 11, none⟩)] w fun e w' => e = .returned (.string ⟨l.toArray⟩) ∧ Kept B b w w' := by
  obtain ⟨v, hc, hown⟩ := h
  have hl0 : l.length ≠ 0 := by simpa using h0
  rw [Lib.byteCells_length] at hown
  obtain ⟨g, cap, cur, rfl, hbg, hg, hnc, hcm, hcs, htake⟩ : ∃ g cap cur, v = .slice (some ⟨g, 0, none⟩) l.length cap ∧ B ≤ g ∧ w.heap[g]? = some (.cells cur 5 (0, 0)) ∧ l.length ≤ cap ∧ cap ≤ maxLen ∧ cur.size = cap * 1 ∧ cur.toList.take (l.length * 1) = Lib.byteCells l := by
    rcases hown.2 with ⟨_, hz⟩ | ⟨g, cap, cur, hv, r⟩
    · exact absurd hz hl0
    · exact ⟨g, cap, cur, hv, r⟩
  have c1 : w.drew.cell? ⟨b, 12, none⟩ = some (.slice (some ⟨g, 0, none⟩) l.length cap) := hc.c1
  have hSD : (Builtin.unsafeSliceData_ #[33] 102 #[.slice (some ⟨g, 0, none⟩) l.length cap]).run Try.prog w.drew = .ok (.pointer (some ⟨g, 0, none⟩)) w.drew :=
    Lib.run_unsafeSliceData_row _ _ _ _ _ _ (by omega)
  have hUS : (Builtin.unsafeString_ #[102, 3] 9 #[.pointer (some ⟨g, 0, none⟩), .int .i64 l.length]).run Try.prog w.drew = .ok (.string ⟨l.toArray⟩) (w.drew.freeze ⟨g, 0, none⟩ l.length) := by
    refine Lib.run_unsafeString_row w.drew 102 3 9 5 Try.underlying102 cellsByte g cur.size (by have hg' : w.drew.heap[g]? = some (.cells cur 5 (0, 0)) := hg; simp [World.shape?, hg']) l h0 (by omega) (by unfold maxLen at hcm; omega) ?_
    intro j x hx
    exact hown.cells (g := g) rfl j (.int .u8 x.toNat) (by simp [Lib.byteCells, hx])
  clear hc hown hg htake hcs h0
  go_enter Try.func35, Try.ntmps35
  go_wp2
  go_region
  all_goals (go_wp2; go_ret; exact ⟨rfl, Kept.of (Lib.below_freeze (Below.drew (Below.refl B w)) (p := ⟨g, 0, none⟩) hbg _)⟩)
set_option maxHeartbeats 2000000 in
set_option maxRecDepth 100000 in
theorem string_none (B b : Nat) (p : Value) (w : World) (h : FAt B b p [] w) (hBw : B ≤ w.heap.size) :
    Calls Try.prog 35 #[.pointer (some ⟨b, 11, none⟩)] w fun e w' => e = .returned (.string ⟨#[]⟩) ∧ Kept B b w w' := by
  obtain ⟨v, hc, hown⟩ := h
  have hUS : ∀ (W : World) (q : Option Addr), (Builtin.unsafeString_ #[102, 3] 9 #[.pointer q, .int .i64 0]).run Try.prog W = .ok (.string .empty) W := fun W q => Lib.run_unsafeString_none W _ _ _ q
  have hlt := hc.lt
  rcases hown.2 with ⟨rfl, _⟩ | ⟨g, cap, cur, rfl, hbg, hg, _, _, _, _⟩
  · have c1 : w.drew.cell? ⟨b, 12, none⟩ = some (.slice none 0 0) := hc.c1
    have hSD : (Builtin.unsafeSliceData_ #[33] 102 #[.slice none 0 0]).run Try.prog w.drew = .ok (.pointer none) w.drew := rfl
    clear hc hown
    go_enter Try.func35, Try.ntmps35
    go_wp2
    go_region
    all_goals (go_wp2; go_ret; exact ⟨rfl, Kept.of (Below.drew (Below.refl B w))⟩)
  · by_cases hc0 : cap = 0
    · subst hc0
      have c1 : w.drew.cell? ⟨b, 12, none⟩ = some (.slice (some ⟨g, 0, none⟩) 0 0) := hc.c1
      have hSD : (Builtin.unsafeSliceData_ #[33] 102 #[.slice (some ⟨g, 0, none⟩) 0 0]).run Try.prog w.drew = .ok (.pointer (some ⟨w.drew.heap.size, 0, none⟩)) (w.drew.alloc (.view ⟨g, 0, none⟩ 5)) :=
        Lib.run_unsafeSliceData_zero w.drew _ _ 5 Try.underlying102 ⟨g, 0, none⟩ 0 (5, cur.size) (by have hg' : w.drew.heap[g]? = some (.cells cur 5 (0, 0)) := hg; simp [World.shape?, hg'])
      have c2 : (w.drew.alloc (.view ⟨g, 0, none⟩ 5)).cell? ⟨b, 12, none⟩ = some (.slice (some ⟨g, 0, none⟩) 0 0) := by
        rw [World.cell?_alloc_lt _ _ _ (by simpa using hlt)]; exact c1
      have c3 : (w.alloc (.view ⟨g, 0, none⟩ 5)).drew.cell? ⟨b, 12, none⟩ = some (.slice (some ⟨g, 0, none⟩) 0 0) := c2
      have c0 : w.cell? ⟨b, 12, none⟩ = some (.slice (some ⟨g, 0, none⟩) 0 0) := c1
      clear hc hown hg
      go_enter Try.func35, Try.ntmps35
      go_wp2
      go_region
      all_goals (go_wp2; go_ret; exact ⟨rfl, Kept.of ((Below.drew (Below.refl B w)).alloc hBw _)⟩)
    · have c1 : w.drew.cell? ⟨b, 12, none⟩ = some (.slice (some ⟨g, 0, none⟩) 0 cap) := hc.c1
      have hSD : (Builtin.unsafeSliceData_ #[33] 102 #[.slice (some ⟨g, 0, none⟩) 0 cap]).run Try.prog w.drew = .ok (.pointer (some ⟨g, 0, none⟩)) w.drew :=
        Lib.run_unsafeSliceData_row _ _ _ _ _ _ hc0
      clear hc hown hg hc0
      go_enter Try.func35, Try.ntmps35
      go_wp2
      go_region
      all_goals (go_wp2; go_ret; exact ⟨rfl, Kept.of (Below.drew (Below.refl B w))⟩)
theorem string_any (B b : Nat) (p : Value) (l : List UInt8) (w : World) (h : FAt B b p (Lib.byteCells l) w) (hBw : B ≤ w.heap.size) :
    Calls Try.prog 35 #[.pointer (some ⟨b, 11, none⟩)] w fun e w' => e = .returned (.string ⟨l.toArray⟩) ∧ Kept B b w w' := by
  cases l with
  | nil => exact string_none B b p w h hBw
  | cons x r => exact string_some B b p (x :: r) w h (by simp)
end FB
end Go.Proofs.Ytijilflnfdgdnaa
