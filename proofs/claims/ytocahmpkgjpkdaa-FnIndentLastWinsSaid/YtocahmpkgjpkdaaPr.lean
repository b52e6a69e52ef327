/- The printer's options (Indent, BinaryNextLine, SwitchCaseIndent, SpaceRedirects), their closures, bufio.NewWriter(nil), and NewPrinter at the lists of options that the laws of n010_85 hand it. Conditions: the cells that each contract names. -/
import Derived.Test.YtocahmpkgjpkdaaRows
import Derived.WalkKit
import Derived.WalkSpells
import Derived.WalkLawsBesides
import Derived.Lib.Hide
import Derived.Laws.EntriesVeiled
import Derived.Great.BuildSlice
namespace Go.Proofs.Ytocahmpkgjpkdaa.Pr
open Go.RowKit


set_option maxHeartbeats 400000 in
theorem mkIndent (a : Int) (w : World) :
    Calls Try.prog 12 #[.int .u64 a] w fun e w' => e = .returned (.func (Fn.func 27) #[] #[.pointer (some ⟨w.heap.size, 0, none⟩)]) ∧ w.alloc (.cells #[.int .u64 a] 28) = w' := by
  go_enter Try.func12, Try.ntmps12
  go_wp2
  go_ret
  exact ⟨rfl, rfl⟩
set_option maxHeartbeats 400000 in
theorem doIndent (p c : Nat) (a : Int) (old : Value) (w : World) (hc : w.cell? ⟨c, 0, none⟩ = some (.int .u64 a)) (ho : w.cell? ⟨p, 5, none⟩ = some old) (hf : w.frozen? ⟨p, 5, none⟩ = false) :
    Calls Try.prog 27 #[.pointer (some ⟨p, 0, none⟩), .pointer (some ⟨c, 0, none⟩)] w fun e w' => e = .returned (.tuple #[]) ∧ w.setCell ⟨p, 5, none⟩ (.int .u64 a) = w' := by
  go_enter Try.func27, Try.ntmps27
  go_wp2
  go_end0
  exact ⟨rfl, rfl⟩

set_option maxHeartbeats 400000 in
theorem mkBinaryNextLine (a : Bool) (w : World) :
    Calls Try.prog 13 #[.bool a] w fun e w' => e = .returned (.func (Fn.func 28) #[] #[.pointer (some ⟨w.heap.size, 0, none⟩)]) ∧ w.alloc (.cells #[.bool a] 4) = w' := by
  go_enter Try.func13, Try.ntmps13
  go_wp2
  go_ret
  exact ⟨rfl, rfl⟩
set_option maxHeartbeats 400000 in
theorem doBinaryNextLine (p c : Nat) (a : Bool) (old : Value) (w : World) (hc : w.cell? ⟨c, 0, none⟩ = some (.bool a)) (ho : w.cell? ⟨p, 6, none⟩ = some old) (hf : w.frozen? ⟨p, 6, none⟩ = false) :
    Calls Try.prog 28 #[.pointer (some ⟨p, 0, none⟩), .pointer (some ⟨c, 0, none⟩)] w fun e w' => e = .returned (.tuple #[]) ∧ w.setCell ⟨p, 6, none⟩ (.bool a) = w' := by
  go_enter Try.func28, Try.ntmps28
  go_wp2
  go_end0
  exact ⟨rfl, rfl⟩

set_option maxHeartbeats 400000 in
theorem mkSwitchCaseIndent (a : Bool) (w : World) :
    Calls Try.prog 15 #[.bool a] w fun e w' => e = .returned (.func (Fn.func 37) #[] #[.pointer (some ⟨w.heap.size, 0, none⟩)]) ∧ w.alloc (.cells #[.bool a] 4) = w' := by
  go_enter Try.func15, Try.ntmps15
  go_wp2
  go_ret
  exact ⟨rfl, rfl⟩
set_option maxHeartbeats 400000 in
theorem doSwitchCaseIndent (p c : Nat) (a : Bool) (old : Value) (w : World) (hc : w.cell? ⟨c, 0, none⟩ = some (.bool a)) (ho : w.cell? ⟨p, 7, none⟩ = some old) (hf : w.frozen? ⟨p, 7, none⟩ = false) :
    Calls Try.prog 37 #[.pointer (some ⟨p, 0, none⟩), .pointer (some ⟨c, 0, none⟩)] w fun e w' => e = .returned (.tuple #[]) ∧ w.setCell ⟨p, 7, none⟩ (.bool a) = w' := by
  go_enter Try.func37, Try.ntmps37
  go_wp2
  go_end0
  exact ⟨rfl, rfl⟩

set_option maxHeartbeats 400000 in
theorem mkSpaceRedirects (a : Bool) (w : World) :
    Calls Try.prog 16 #[.bool a] w fun e w' => e = .returned (.func (Fn.func 38) #[] #[.pointer (some ⟨w.heap.size, 0, none⟩)]) ∧ w.alloc (.cells #[.bool a] 4) = w' := by
  go_enter Try.func16, Try.ntmps16
  go_wp2
  go_ret
  exact ⟨rfl, rfl⟩
set_option maxHeartbeats 400000 in
theorem doSpaceRedirects (p c : Nat) (a : Bool) (old : Value) (w : World) (hc : w.cell? ⟨c, 0, none⟩ = some (.bool a)) (ho : w.cell? ⟨p, 8, none⟩ = some old) (hf : w.frozen? ⟨p, 8, none⟩ = false) :
    Calls Try.prog 38 #[.pointer (some ⟨p, 0, none⟩), .pointer (some ⟨c, 0, none⟩)] w fun e w' => e = .returned (.tuple #[]) ∧ w.setCell ⟨p, 8, none⟩ (.bool a) = w' := by
  go_enter Try.func38, Try.ntmps38
  go_wp2
  go_end0
  exact ⟨rfl, rfl⟩

theorem assert_nil (w : World) : (Instr.typeAssert .nilIface 70 66 true).run Try.prog w = .ok (.tuple #[.pointer none, .bool false]) w := by kernel_rfl
theorem info5 : (Try.prog.info? 5).map (fun i => (i.zero, i.size, i.bytes)) = some (some (.int .u8 0), 1, 1) := by kernel_rfl
set_option maxHeartbeats 1000000 in
set_option maxRecDepth 100000 in
theorem newWriterSize (w : World) :
    Calls Try.prog 46 #[.nilIface, .int .i64 4096] w fun e w' => ∃ b, e = .returned (.pointer (some ⟨b, 0, none⟩)) ∧ Below w.heap.size w w' := by
  obtain ⟨i0, hi, hz0, hz1, hz2⟩ := info_parts info5
  have hta := assert_nil
  go_enter Try.func46, Try.ntmps46
  go_wp2_with (at_make; refine wpList_make_full _ rfl _ _ _ rfl w.heap.size 5 i0 (.int .u8 0) 1 Try.underlying48 hi hz0 hz1 .i64 .i64 _ _ 4096 rfl rfl rfl rfl (by rw [hz2]; omega) (by unfold maxLen; omega) (Nat.le_refl _) ?_; intro w1 hown hgrow)
  go_ret
  exact ⟨_, rfl, ((Below.refl _ _).grown hgrow (Nat.le_refl _) (fun k hk => by cases hk)).alloc hgrow.size _⟩
set_option maxHeartbeats 1000000 in
theorem newWriter (w : World) :
    Calls Try.prog 26 #[.nilIface] w fun e w' => ∃ b, e = .returned (.pointer (some ⟨b, 0, none⟩)) ∧ Below w.heap.size w w' := by
  go_enter Try.func26, Try.ntmps26
  go_wp2_with (go_at_call 46; refine (newWriterSize _).mono ?_; rintro e w1 ⟨b, rfl, hb1⟩)
  go_ret
  exact ⟨b, rfl, hb1⟩

/-- the printer's options in memory; the others are off -/
def PrAt (w : World) (p : Nat) (ind : Int) (bin swt sr : Bool) : Prop :=
  w.cell? ⟨p, 5, none⟩ = some (.int .u64 ind) ∧ w.cell? ⟨p, 6, none⟩ = some (.bool bin) ∧ w.cell? ⟨p, 7, none⟩ = some (.bool swt) ∧ w.cell? ⟨p, 8, none⟩ = some (.bool sr) ∧
  w.cell? ⟨p, 9, none⟩ = some (.bool false) ∧ w.cell? ⟨p, 10, none⟩ = some (.bool false) ∧ w.cell? ⟨p, 11, none⟩ = some (.bool false) ∧ w.cell? ⟨p, 12, none⟩ = some (.bool false)
def Made (w : World) (ind : Int) (bin swt sr : Bool) (e : Ending) (w' : World) : Prop :=
  ∃ p, e = .returned (.pointer (some ⟨p, 0, none⟩)) ∧ p < w'.heap.size ∧ PrAt w' p ind bin swt sr ∧ Below w.heap.size w w'

/-- what the loop over the options keeps: the options' own cells, and the printer -/
def Rel (w : World) (B sb c0 c1 c2 p : Nat) (F0 F1 F2 v0 v1 v2 : Value) (q : Int × Bool × Bool × Bool) (wr : World) : Prop :=
  (wr.cell? ⟨sb, 0, none⟩ = some F0 ∧ wr.cell? ⟨sb, 1, none⟩ = some F1 ∧ wr.cell? ⟨sb, 2, none⟩ = some F2 ∧ wr.cell? ⟨c0, 0, none⟩ = some v0 ∧ wr.cell? ⟨c1, 0, none⟩ = some v1 ∧ wr.cell? ⟨c2, 0, none⟩ = some v2) ∧
  PrAt wr p q.1 q.2.1 q.2.2.1 q.2.2.2 ∧ (∀ i, wr.frozen? ⟨p, i, none⟩ = false) ∧ p < wr.heap.size ∧ Below B w wr
theorem oth {wr : World} {p i b j : Nat} {v x : Value} (hne : p ≠ b) (h : wr.cell? ⟨b, j, none⟩ = some x) : (wr.setCell ⟨p, i, none⟩ v).cell? ⟨b, j, none⟩ = some x := by
  rw [World.cell?_setCell_other wr _ _ _ (fun e => hne (by simpa using congrArg Addr.block e))]; exact h
theorem oth' {wr : World} {p i j : Nat} {v x : Value} (hne : i ≠ j) (h : wr.cell? ⟨p, j, none⟩ = some x) : (wr.setCell ⟨p, i, none⟩ v).cell? ⟨p, j, none⟩ = some x := by
  rw [World.cell?_setCell_other wr _ _ _ (fun e => hne (by simpa using congrArg Addr.off e))]; exact h

theorem Rel.setIndent {w wr : World} {B sb c0 c1 c2 p : Nat} {F0 F1 F2 v0 v1 v2 : Value} {q : Int × Bool × Bool × Bool} (h : Rel w B sb c0 c1 c2 p F0 F1 F2 v0 v1 v2 q wr) (a : Int) (hB : B ≤ p) (n0 : p ≠ sb) (n1 : p ≠ c0) (n2 : p ≠ c1) (n3 : p ≠ c2) :
    Rel w B sb c0 c1 c2 p F0 F1 F2 v0 v1 v2 (a, q.2) (wr.setCell ⟨p, 5, none⟩ (.int .u64 a)) := by
  obtain ⟨⟨a0, a1, a2, a3, a4, a5⟩, ⟨h5, h6, h7, h8, h9, h10, h11, h12⟩, hf, hz, hb⟩ := h
  exact ⟨⟨oth n0 a0, oth n0 a1, oth n0 a2, oth n1 a3, oth n2 a4, oth n3 a5⟩, ⟨World.cell?_setCell_same wr _ _ h5, oth' (by decide) h6, oth' (by decide) h7, oth' (by decide) h8, oth' (by decide) h9, oth' (by decide) h10, oth' (by decide) h11, oth' (by decide) h12⟩, fun i => by rw [World.frozen?_setCell]; exact hf i, by rw [World.size_setCell]; exact hz, hb.setCell hB _⟩

theorem Rel.setBinaryNextLine {w wr : World} {B sb c0 c1 c2 p : Nat} {F0 F1 F2 v0 v1 v2 : Value} {q : Int × Bool × Bool × Bool} (h : Rel w B sb c0 c1 c2 p F0 F1 F2 v0 v1 v2 q wr) (a : Bool) (hB : B ≤ p) (n0 : p ≠ sb) (n1 : p ≠ c0) (n2 : p ≠ c1) (n3 : p ≠ c2) :
    Rel w B sb c0 c1 c2 p F0 F1 F2 v0 v1 v2 (q.1, a, q.2.2) (wr.setCell ⟨p, 6, none⟩ (.bool a)) := by
  obtain ⟨⟨a0, a1, a2, a3, a4, a5⟩, ⟨h5, h6, h7, h8, h9, h10, h11, h12⟩, hf, hz, hb⟩ := h
  exact ⟨⟨oth n0 a0, oth n0 a1, oth n0 a2, oth n1 a3, oth n2 a4, oth n3 a5⟩, ⟨oth' (by decide) h5, World.cell?_setCell_same wr _ _ h6, oth' (by decide) h7, oth' (by decide) h8, oth' (by decide) h9, oth' (by decide) h10, oth' (by decide) h11, oth' (by decide) h12⟩, fun i => by rw [World.frozen?_setCell]; exact hf i, by rw [World.size_setCell]; exact hz, hb.setCell hB _⟩

theorem Rel.setSwitchCaseIndent {w wr : World} {B sb c0 c1 c2 p : Nat} {F0 F1 F2 v0 v1 v2 : Value} {q : Int × Bool × Bool × Bool} (h : Rel w B sb c0 c1 c2 p F0 F1 F2 v0 v1 v2 q wr) (a : Bool) (hB : B ≤ p) (n0 : p ≠ sb) (n1 : p ≠ c0) (n2 : p ≠ c1) (n3 : p ≠ c2) :
    Rel w B sb c0 c1 c2 p F0 F1 F2 v0 v1 v2 (q.1, q.2.1, a, q.2.2.2) (wr.setCell ⟨p, 7, none⟩ (.bool a)) := by
  obtain ⟨⟨a0, a1, a2, a3, a4, a5⟩, ⟨h5, h6, h7, h8, h9, h10, h11, h12⟩, hf, hz, hb⟩ := h
  exact ⟨⟨oth n0 a0, oth n0 a1, oth n0 a2, oth n1 a3, oth n2 a4, oth n3 a5⟩, ⟨oth' (by decide) h5, oth' (by decide) h6, World.cell?_setCell_same wr _ _ h7, oth' (by decide) h8, oth' (by decide) h9, oth' (by decide) h10, oth' (by decide) h11, oth' (by decide) h12⟩, fun i => by rw [World.frozen?_setCell]; exact hf i, by rw [World.size_setCell]; exact hz, hb.setCell hB _⟩

theorem Rel.setSpaceRedirects {w wr : World} {B sb c0 c1 c2 p : Nat} {F0 F1 F2 v0 v1 v2 : Value} {q : Int × Bool × Bool × Bool} (h : Rel w B sb c0 c1 c2 p F0 F1 F2 v0 v1 v2 q wr) (a : Bool) (hB : B ≤ p) (n0 : p ≠ sb) (n1 : p ≠ c0) (n2 : p ≠ c1) (n3 : p ≠ c2) :
    Rel w B sb c0 c1 c2 p F0 F1 F2 v0 v1 v2 (q.1, q.2.1, q.2.2.1, a) (wr.setCell ⟨p, 8, none⟩ (.bool a)) := by
  obtain ⟨⟨a0, a1, a2, a3, a4, a5⟩, ⟨h5, h6, h7, h8, h9, h10, h11, h12⟩, hf, hz, hb⟩ := h
  exact ⟨⟨oth n0 a0, oth n0 a1, oth n0 a2, oth n1 a3, oth n2 a4, oth n3 a5⟩, ⟨oth' (by decide) h5, oth' (by decide) h6, oth' (by decide) h7, World.cell?_setCell_same wr _ _ h8, oth' (by decide) h9, oth' (by decide) h10, oth' (by decide) h11, oth' (by decide) h12⟩, fun i => by rw [World.frozen?_setCell]; exact hf i, by rw [World.size_setCell]; exact hz, hb.setCell hB _⟩

theorem kb {W : World} {o : Obj} {a : Addr} {v : Value} (h : W.cell? a = some v) : (W.alloc o).cell? a = some v := by
  rw [World.cell?_alloc_lt _ _ _ (World.block_lt_of_cell? W a h)]; exact h

def np1St (x : Int) (y : Bool) (z : Int) : Nat → Int × Bool × Bool × Bool
  | 0 => (0, false, false, false)
  | 1 => (x, false, false, false)
  | 2 => (x, y, false, false)
  | _ => (z, y, false, false)
set_option maxHeartbeats 4000000 in
set_option maxRecDepth 100000 in
theorem np1 (sb c0 c1 c2 : Nat) (x : Int) (y : Bool) (z : Int) (w : World) (s0 : w.cell? ⟨sb, 0, none⟩ = some (.func (Fn.func 27) #[] #[.pointer (some ⟨c0, 0, none⟩)])) (h0 : w.cell? ⟨c0, 0, none⟩ = some (.int .u64 x)) (s1 : w.cell? ⟨sb, 1, none⟩ = some (.func (Fn.func 28) #[] #[.pointer (some ⟨c1, 0, none⟩)])) (h1 : w.cell? ⟨c1, 0, none⟩ = some (.bool y)) (s2 : w.cell? ⟨sb, 2, none⟩ = some (.func (Fn.func 27) #[] #[.pointer (some ⟨c2, 0, none⟩)])) (h2 : w.cell? ⟨c2, 0, none⟩ = some (.int .u64 z)) :
    Calls Try.prog 11 #[.slice (some ⟨sb, 0, none⟩) 3 3] w (Made w z y false false) := by
  have l0 : sb < w.heap.size := World.block_lt_of_cell? w _ s0
  have l1 : c0 < w.heap.size := World.block_lt_of_cell? w _ h0
  have l2 : c1 < w.heap.size := World.block_lt_of_cell? w _ h1
  have l3 : c2 < w.heap.size := World.block_lt_of_cell? w _ h2
  go_enter Try.func11, Try.ntmps11
  go_wp2_with (go_at_call 26; refine (newWriter _).mono ?_; rintro e w1 ⟨b, rfl, hb1⟩)
  have hz1 := hb1.size
  go_loopw [13] (fun i wr => ∃ k : Nat, k ≤ 3 ∧ i = .int .i64 k ∧ Rel w w.heap.size sb c0 c1 c2 (w1.heap.size + 1) (.func (Fn.func 27) #[] #[.pointer (some ⟨c0, 0, none⟩)]) (.func (Fn.func 28) #[] #[.pointer (some ⟨c1, 0, none⟩)]) (.func (Fn.func 27) #[] #[.pointer (some ⟨c2, 0, none⟩)]) (.int .u64 x) (.bool y) (.int .u64 z) (np1St x y z k) wr) (fun i _ => 3 - (intOf i).toNat)
  case atStart =>
    refine ⟨0, by omega, rfl, ⟨⟨?_, ?_, ?_, ?_, ?_, ?_⟩, ⟨?_, ?_, ?_, ?_, ?_, ?_, ?_, ?_⟩, ?_, ?_, ?_⟩⟩
    · exact kb (kb (cell_later hb1 s0))
    · exact kb (kb (cell_later hb1 s1))
    · exact kb (kb (cell_later hb1 s2))
    · exact kb (kb (cell_later hb1 h0))
    · exact kb (kb (cell_later hb1 h1))
    · exact kb (kb (cell_later hb1 h2))
    all_goals first | (simp [np1St]; done) | (intro i; simp; done) | exact (hb1.alloc hb1.size _).alloc (by rw [World.size_alloc]; omega) _
  case round =>
    obtain ⟨k, hk, rfl, hR⟩ := hrel
    have hB : w.heap.size ≤ w1.heap.size + 1 := by omega
    have n0 : w1.heap.size + 1 ≠ sb := by omega
    have n1 : w1.heap.size + 1 ≠ c0 := by omega
    have n2 : w1.heap.size + 1 ≠ c1 := by omega
    have n3 : w1.heap.size + 1 ≠ c2 := by omega
    have HR := Lib.hid hR
    clear hR l0 l1 l2 l3 s0 s1 s2 h0 h1 h2 hz1
    obtain rfl | rfl | rfl | rfl : k = 0 ∨ k = 1 ∨ k = 2 ∨ k = 3 := by omega
    · obtain ⟨⟨r0, r1, r2, r3, r4, r5⟩, ⟨q5, q6, q7, q8, q9, q10, q11, q12⟩, hf, hz, hb⟩ := HR.out
      have hfo := hf 5
      clear hf hz hb r1 r2 q9 q10 q11 q12
      go_wp2_with (go_at_call 27; refine (doIndent _ _ _ _ _ r3 q5 hfo).mono ?_; rintro e w2 ⟨rfl, rfl⟩)
      go_roundw
      case rel => exact ⟨1, by omega, by go_num, HR.out.setIndent x hB n0 n1 n2 n3⟩
      case measure => simp [intOf]
    · obtain ⟨⟨r0, r1, r2, r3, r4, r5⟩, ⟨q5, q6, q7, q8, q9, q10, q11, q12⟩, hf, hz, hb⟩ := HR.out
      have hfo := hf 6
      clear hf hz hb r2 r0 q9 q10 q11 q12
      go_wp2_with (go_at_call 28; refine (doBinaryNextLine _ _ _ _ _ r4 q6 hfo).mono ?_; rintro e w2 ⟨rfl, rfl⟩)
      go_roundw
      case rel => exact ⟨2, by omega, by go_num, HR.out.setBinaryNextLine y hB n0 n1 n2 n3⟩
      case measure => simp [intOf]
    · obtain ⟨⟨r0, r1, r2, r3, r4, r5⟩, ⟨q5, q6, q7, q8, q9, q10, q11, q12⟩, hf, hz, hb⟩ := HR.out
      have hfo := hf 5
      clear hf hz hb r0 r1 q9 q10 q11 q12
      go_wp2_with (go_at_call 27; refine (doIndent _ _ _ _ _ r5 q5 hfo).mono ?_; rintro e w2 ⟨rfl, rfl⟩)
      go_roundw
      case rel => exact ⟨3, by omega, by go_num, HR.out.setIndent z hB n0 n1 n2 n3⟩
      case measure => simp [intOf]
    · go_wp2
      go_ret
      obtain ⟨_, hp, _, hz, hb⟩ := HR.out
      exact ⟨_, rfl, hz, hp, hb⟩

def np2St (x : Bool) (y : Bool) (z : Int) : Nat → Int × Bool × Bool × Bool
  | 0 => (0, false, false, false)
  | 1 => (0, false, x, false)
  | 2 => (0, false, x, y)
  | _ => (z, false, x, y)
set_option maxHeartbeats 4000000 in
set_option maxRecDepth 100000 in
theorem np2 (sb c0 c1 c2 : Nat) (x : Bool) (y : Bool) (z : Int) (w : World) (s0 : w.cell? ⟨sb, 0, none⟩ = some (.func (Fn.func 37) #[] #[.pointer (some ⟨c0, 0, none⟩)])) (h0 : w.cell? ⟨c0, 0, none⟩ = some (.bool x)) (s1 : w.cell? ⟨sb, 1, none⟩ = some (.func (Fn.func 38) #[] #[.pointer (some ⟨c1, 0, none⟩)])) (h1 : w.cell? ⟨c1, 0, none⟩ = some (.bool y)) (s2 : w.cell? ⟨sb, 2, none⟩ = some (.func (Fn.func 27) #[] #[.pointer (some ⟨c2, 0, none⟩)])) (h2 : w.cell? ⟨c2, 0, none⟩ = some (.int .u64 z)) :
    Calls Try.prog 11 #[.slice (some ⟨sb, 0, none⟩) 3 3] w (Made w z false x y) := by
  have l0 : sb < w.heap.size := World.block_lt_of_cell? w _ s0
  have l1 : c0 < w.heap.size := World.block_lt_of_cell? w _ h0
  have l2 : c1 < w.heap.size := World.block_lt_of_cell? w _ h1
  have l3 : c2 < w.heap.size := World.block_lt_of_cell? w _ h2
  go_enter Try.func11, Try.ntmps11
  go_wp2_with (go_at_call 26; refine (newWriter _).mono ?_; rintro e w1 ⟨b, rfl, hb1⟩)
  have hz1 := hb1.size
  go_loopw [13] (fun i wr => ∃ k : Nat, k ≤ 3 ∧ i = .int .i64 k ∧ Rel w w.heap.size sb c0 c1 c2 (w1.heap.size + 1) (.func (Fn.func 37) #[] #[.pointer (some ⟨c0, 0, none⟩)]) (.func (Fn.func 38) #[] #[.pointer (some ⟨c1, 0, none⟩)]) (.func (Fn.func 27) #[] #[.pointer (some ⟨c2, 0, none⟩)]) (.bool x) (.bool y) (.int .u64 z) (np2St x y z k) wr) (fun i _ => 3 - (intOf i).toNat)
  case atStart =>
    refine ⟨0, by omega, rfl, ⟨⟨?_, ?_, ?_, ?_, ?_, ?_⟩, ⟨?_, ?_, ?_, ?_, ?_, ?_, ?_, ?_⟩, ?_, ?_, ?_⟩⟩
    · exact kb (kb (cell_later hb1 s0))
    · exact kb (kb (cell_later hb1 s1))
    · exact kb (kb (cell_later hb1 s2))
    · exact kb (kb (cell_later hb1 h0))
    · exact kb (kb (cell_later hb1 h1))
    · exact kb (kb (cell_later hb1 h2))
    all_goals first | (simp [np2St]; done) | (intro i; simp; done) | exact (hb1.alloc hb1.size _).alloc (by rw [World.size_alloc]; omega) _
  case round =>
    obtain ⟨k, hk, rfl, hR⟩ := hrel
    have hB : w.heap.size ≤ w1.heap.size + 1 := by omega
    have n0 : w1.heap.size + 1 ≠ sb := by omega
    have n1 : w1.heap.size + 1 ≠ c0 := by omega
    have n2 : w1.heap.size + 1 ≠ c1 := by omega
    have n3 : w1.heap.size + 1 ≠ c2 := by omega
    have HR := Lib.hid hR
    clear hR l0 l1 l2 l3 s0 s1 s2 h0 h1 h2 hz1
    obtain rfl | rfl | rfl | rfl : k = 0 ∨ k = 1 ∨ k = 2 ∨ k = 3 := by omega
    · obtain ⟨⟨r0, r1, r2, r3, r4, r5⟩, ⟨q5, q6, q7, q8, q9, q10, q11, q12⟩, hf, hz, hb⟩ := HR.out
      have hfo := hf 7
      clear hf hz hb r1 r2 q9 q10 q11 q12
      go_wp2_with (go_at_call 37; refine (doSwitchCaseIndent _ _ _ _ _ r3 q7 hfo).mono ?_; rintro e w2 ⟨rfl, rfl⟩)
      go_roundw
      case rel => exact ⟨1, by omega, by go_num, HR.out.setSwitchCaseIndent x hB n0 n1 n2 n3⟩
      case measure => simp [intOf]
    · obtain ⟨⟨r0, r1, r2, r3, r4, r5⟩, ⟨q5, q6, q7, q8, q9, q10, q11, q12⟩, hf, hz, hb⟩ := HR.out
      have hfo := hf 8
      clear hf hz hb r2 r0 q9 q10 q11 q12
      go_wp2_with (go_at_call 38; refine (doSpaceRedirects _ _ _ _ _ r4 q8 hfo).mono ?_; rintro e w2 ⟨rfl, rfl⟩)
      go_roundw
      case rel => exact ⟨2, by omega, by go_num, HR.out.setSpaceRedirects y hB n0 n1 n2 n3⟩
      case measure => simp [intOf]
    · obtain ⟨⟨r0, r1, r2, r3, r4, r5⟩, ⟨q5, q6, q7, q8, q9, q10, q11, q12⟩, hf, hz, hb⟩ := HR.out
      have hfo := hf 5
      clear hf hz hb r0 r1 q9 q10 q11 q12
      go_wp2_with (go_at_call 27; refine (doIndent _ _ _ _ _ r5 q5 hfo).mono ?_; rintro e w2 ⟨rfl, rfl⟩)
      go_roundw
      case rel => exact ⟨3, by omega, by go_num, HR.out.setIndent z hB n0 n1 n2 n3⟩
      case measure => simp [intOf]
    · go_wp2
      go_ret
      obtain ⟨_, hp, _, hz, hb⟩ := HR.out
      exact ⟨_, rfl, hz, hp, hb⟩

def np3St (x : Int) (y : Bool) (z : Bool) : Nat → Int × Bool × Bool × Bool
  | 0 => (0, false, false, false)
  | 1 => (x, false, false, false)
  | 2 => (x, false, false, y)
  | _ => (x, false, z, y)
set_option maxHeartbeats 4000000 in
set_option maxRecDepth 100000 in
theorem np3 (sb c0 c1 c2 : Nat) (x : Int) (y : Bool) (z : Bool) (w : World) (s0 : w.cell? ⟨sb, 0, none⟩ = some (.func (Fn.func 27) #[] #[.pointer (some ⟨c0, 0, none⟩)])) (h0 : w.cell? ⟨c0, 0, none⟩ = some (.int .u64 x)) (s1 : w.cell? ⟨sb, 1, none⟩ = some (.func (Fn.func 38) #[] #[.pointer (some ⟨c1, 0, none⟩)])) (h1 : w.cell? ⟨c1, 0, none⟩ = some (.bool y)) (s2 : w.cell? ⟨sb, 2, none⟩ = some (.func (Fn.func 37) #[] #[.pointer (some ⟨c2, 0, none⟩)])) (h2 : w.cell? ⟨c2, 0, none⟩ = some (.bool z)) :
    Calls Try.prog 11 #[.slice (some ⟨sb, 0, none⟩) 3 3] w (Made w x false z y) := by
  have l0 : sb < w.heap.size := World.block_lt_of_cell? w _ s0
  have l1 : c0 < w.heap.size := World.block_lt_of_cell? w _ h0
  have l2 : c1 < w.heap.size := World.block_lt_of_cell? w _ h1
  have l3 : c2 < w.heap.size := World.block_lt_of_cell? w _ h2
  go_enter Try.func11, Try.ntmps11
  go_wp2_with (go_at_call 26; refine (newWriter _).mono ?_; rintro e w1 ⟨b, rfl, hb1⟩)
  have hz1 := hb1.size
  go_loopw [13] (fun i wr => ∃ k : Nat, k ≤ 3 ∧ i = .int .i64 k ∧ Rel w w.heap.size sb c0 c1 c2 (w1.heap.size + 1) (.func (Fn.func 27) #[] #[.pointer (some ⟨c0, 0, none⟩)]) (.func (Fn.func 38) #[] #[.pointer (some ⟨c1, 0, none⟩)]) (.func (Fn.func 37) #[] #[.pointer (some ⟨c2, 0, none⟩)]) (.int .u64 x) (.bool y) (.bool z) (np3St x y z k) wr) (fun i _ => 3 - (intOf i).toNat)
  case atStart =>
    refine ⟨0, by omega, rfl, ⟨⟨?_, ?_, ?_, ?_, ?_, ?_⟩, ⟨?_, ?_, ?_, ?_, ?_, ?_, ?_, ?_⟩, ?_, ?_, ?_⟩⟩
    · exact kb (kb (cell_later hb1 s0))
    · exact kb (kb (cell_later hb1 s1))
    · exact kb (kb (cell_later hb1 s2))
    · exact kb (kb (cell_later hb1 h0))
    · exact kb (kb (cell_later hb1 h1))
    · exact kb (kb (cell_later hb1 h2))
    all_goals first | (simp [np3St]; done) | (intro i; simp; done) | exact (hb1.alloc hb1.size _).alloc (by rw [World.size_alloc]; omega) _
  case round =>
    obtain ⟨k, hk, rfl, hR⟩ := hrel
    have hB : w.heap.size ≤ w1.heap.size + 1 := by omega
    have n0 : w1.heap.size + 1 ≠ sb := by omega
    have n1 : w1.heap.size + 1 ≠ c0 := by omega
    have n2 : w1.heap.size + 1 ≠ c1 := by omega
    have n3 : w1.heap.size + 1 ≠ c2 := by omega
    have HR := Lib.hid hR
    clear hR l0 l1 l2 l3 s0 s1 s2 h0 h1 h2 hz1
    obtain rfl | rfl | rfl | rfl : k = 0 ∨ k = 1 ∨ k = 2 ∨ k = 3 := by omega
    · obtain ⟨⟨r0, r1, r2, r3, r4, r5⟩, ⟨q5, q6, q7, q8, q9, q10, q11, q12⟩, hf, hz, hb⟩ := HR.out
      have hfo := hf 5
      clear hf hz hb r1 r2 q9 q10 q11 q12
      go_wp2_with (go_at_call 27; refine (doIndent _ _ _ _ _ r3 q5 hfo).mono ?_; rintro e w2 ⟨rfl, rfl⟩)
      go_roundw
      case rel => exact ⟨1, by omega, by go_num, HR.out.setIndent x hB n0 n1 n2 n3⟩
      case measure => simp [intOf]
    · obtain ⟨⟨r0, r1, r2, r3, r4, r5⟩, ⟨q5, q6, q7, q8, q9, q10, q11, q12⟩, hf, hz, hb⟩ := HR.out
      have hfo := hf 8
      clear hf hz hb r2 r0 q9 q10 q11 q12
      go_wp2_with (go_at_call 38; refine (doSpaceRedirects _ _ _ _ _ r4 q8 hfo).mono ?_; rintro e w2 ⟨rfl, rfl⟩)
      go_roundw
      case rel => exact ⟨2, by omega, by go_num, HR.out.setSpaceRedirects y hB n0 n1 n2 n3⟩
      case measure => simp [intOf]
    · obtain ⟨⟨r0, r1, r2, r3, r4, r5⟩, ⟨q5, q6, q7, q8, q9, q10, q11, q12⟩, hf, hz, hb⟩ := HR.out
      have hfo := hf 7
      clear hf hz hb r0 r1 q9 q10 q11 q12
      go_wp2_with (go_at_call 37; refine (doSwitchCaseIndent _ _ _ _ _ r5 q7 hfo).mono ?_; rintro e w2 ⟨rfl, rfl⟩)
      go_roundw
      case rel => exact ⟨3, by omega, by go_num, HR.out.setSwitchCaseIndent z hB n0 n1 n2 n3⟩
      case measure => simp [intOf]
    · go_wp2
      go_ret
      obtain ⟨_, hp, _, hz, hb⟩ := HR.out
      exact ⟨_, rfl, hz, hp, hb⟩

theorem get0 (p : Nat) (a : Int) (w : World) (h : w.cell? ⟨p, 5, none⟩ = some (.int .u64 a)) : Calls Try.prog 29 #[.pointer (some ⟨p, 0, none⟩)] w fun e w' => e = .returned (.int .u64 a) ∧ w = w' := by
  go_enter Try.func29, Try.ntmps29
  go_wp2
  go_ret
  exact ⟨rfl, rfl⟩

theorem get1 (p : Nat) (a : Bool) (w : World) (h : w.cell? ⟨p, 6, none⟩ = some (.bool a)) : Calls Try.prog 30 #[.pointer (some ⟨p, 0, none⟩)] w fun e w' => e = .returned (.bool a) ∧ w = w' := by
  go_enter Try.func30, Try.ntmps30
  go_wp2
  go_ret
  exact ⟨rfl, rfl⟩

theorem get2 (p : Nat) (a : Bool) (w : World) (h : w.cell? ⟨p, 7, none⟩ = some (.bool a)) : Calls Try.prog 31 #[.pointer (some ⟨p, 0, none⟩)] w fun e w' => e = .returned (.bool a) ∧ w = w' := by
  go_enter Try.func31, Try.ntmps31
  go_wp2
  go_ret
  exact ⟨rfl, rfl⟩

theorem get3 (p : Nat) (a : Bool) (w : World) (h : w.cell? ⟨p, 8, none⟩ = some (.bool a)) : Calls Try.prog 32 #[.pointer (some ⟨p, 0, none⟩)] w fun e w' => e = .returned (.bool a) ∧ w = w' := by
  go_enter Try.func32, Try.ntmps32
  go_wp2
  go_ret
  exact ⟨rfl, rfl⟩

theorem get4 (p : Nat) (a : Bool) (w : World) (h : w.cell? ⟨p, 9, none⟩ = some (.bool a)) : Calls Try.prog 33 #[.pointer (some ⟨p, 0, none⟩)] w fun e w' => e = .returned (.bool a) ∧ w = w' := by
  go_enter Try.func33, Try.ntmps33
  go_wp2
  go_ret
  exact ⟨rfl, rfl⟩

theorem get5 (p : Nat) (a : Bool) (w : World) (h : w.cell? ⟨p, 10, none⟩ = some (.bool a)) : Calls Try.prog 34 #[.pointer (some ⟨p, 0, none⟩)] w fun e w' => e = .returned (.bool a) ∧ w = w' := by
  go_enter Try.func34, Try.ntmps34
  go_wp2
  go_ret
  exact ⟨rfl, rfl⟩

theorem get6 (p : Nat) (a : Bool) (w : World) (h : w.cell? ⟨p, 11, none⟩ = some (.bool a)) : Calls Try.prog 35 #[.pointer (some ⟨p, 0, none⟩)] w fun e w' => e = .returned (.bool a) ∧ w = w' := by
  go_enter Try.func35, Try.ntmps35
  go_wp2
  go_ret
  exact ⟨rfl, rfl⟩

theorem get7 (p : Nat) (a : Bool) (w : World) (h : w.cell? ⟨p, 12, none⟩ = some (.bool a)) : Calls Try.prog 36 #[.pointer (some ⟨p, 0, none⟩)] w fun e w' => e = .returned (.bool a) ∧ w = w' := by
  go_enter Try.func36, Try.ntmps36
  go_wp2
  go_ret
  exact ⟨rfl, rfl⟩

abbrev cfgV (ind : Int) (bin swt sr : Bool) : Value := .agg #[.int .u64 ind, .bool bin, .bool swt, .bool sr, .bool false, .bool false, .bool false, .bool false]
set_option maxHeartbeats 1000000 in
theorem cfgOf_any (p : Nat) (ind : Int) (bin swt sr : Bool) (w : World) (h : PrAt w p ind bin swt sr) :
    Calls Try.prog 14 #[.pointer (some ⟨p, 0, none⟩)] w fun e w' => e = .returned (cfgV ind bin swt sr) ∧ Below w.heap.size w w' := by
  obtain ⟨h5, h6, h7, h8, h9, h10, h11, h12⟩ := h
  go_enter Try.func14, Try.ntmps14
  go_wp2_with (first | (go_at_call 29; refine (get0 _ _ _ (kb h5)).mono ?_; rintro e w' ⟨rfl, rfl⟩) | (go_at_call 30; refine (get1 _ _ _ (kb h6)).mono ?_; rintro e w' ⟨rfl, rfl⟩) | (go_at_call 31; refine (get2 _ _ _ (kb h7)).mono ?_; rintro e w' ⟨rfl, rfl⟩) | (go_at_call 32; refine (get3 _ _ _ (kb h8)).mono ?_; rintro e w' ⟨rfl, rfl⟩) | (go_at_call 33; refine (get4 _ _ _ (kb h9)).mono ?_; rintro e w' ⟨rfl, rfl⟩) | (go_at_call 34; refine (get5 _ _ _ (kb h10)).mono ?_; rintro e w' ⟨rfl, rfl⟩) | (go_at_call 35; refine (get6 _ _ _ (kb h11)).mono ?_; rintro e w' ⟨rfl, rfl⟩) | (go_at_call 36; refine (get7 _ _ _ (kb h12)).mono ?_; rintro e w' ⟨rfl, rfl⟩))
  exact bodyPost_ret (v := cfgV ind bin swt sr) (by simp [results, Try.results14, go_sem]) rfl ⟨rfl, (Below.refl _ _).alloc (Nat.le_refl _) _⟩

end Go.Proofs.Ytocahmpkgjpkdaa.Pr
