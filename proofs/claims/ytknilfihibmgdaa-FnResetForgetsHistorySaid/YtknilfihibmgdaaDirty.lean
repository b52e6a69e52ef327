/- The dirty parser state as a value of 32 cells, and the contracts of the functions that look at it and copy it. Conditions: the cells that the contracts name. -/
import Derived.Test.YtknilfihibmgdaaCloneB
import Derived.Test.YtknilfihibmgdaaSlices
import Derived.Great.BuildSlice
import Derived.Laws.Rows
import Derived.Laws.CopyOwn
import Derived.Laws.NewBlocks
namespace Go.Proofs.Ytknilfihibmgdaa
namespace DT
open Go.RowKit

/-- what a DirtyState holds, field by field -/
structure Drt where
  tok : Int
  val : ByteArray
  eql : Int
  bsA : Option Addr
  bsN : Nat
  bsC : Nat
  bsp : Int
  offs : Int
  line : Int
  col : Int
  r : Int
  w : Int
  errSet : Bool
  readErrSet : Bool
  readEOF : Bool
  quote : Int
  forbid : Bool
  opn : Int
  recd : Int
  hnil : Bool
  nhd : Int
  bur : Int
  hsA : Option Addr
  hsN : Nat
  hsC : Nat
  pdoc : Bool
  obq : Int
  obd : Int
  nac : Int
  nlb : Int
  nwb : Int
  lbA : Option Addr
  lbN : Nat
  lbC : Nat
  spaced : Bool
  lbe : Int
  rop : Int
  rfp : Bool
/-- its cells -/
def Drt.cells (d : Drt) : Array Value := #[.int .u32 d.tok, .string d.val, .int .i64 d.eql, .slice d.bsA d.bsN d.bsC, .int .u64 d.bsp, .int .i64 d.offs, .int .i64 d.line, .int .i64 d.col, .int .i32 d.r, .int .i64 d.w, .bool d.errSet, .bool d.readErrSet, .bool d.readEOF, .int .u32 d.quote, .bool d.forbid, .int .i64 d.opn, .int .i64 d.recd, .bool d.hnil, .int .i64 d.nhd, .int .i64 d.bur, .slice d.hsA d.hsN d.hsC, .bool d.pdoc, .int .i64 d.obq, .int .i64 d.obd, .int .i64 d.nac, .int .i64 d.nlb, .int .i64 d.nwb, .slice d.lbA d.lbN d.lbC, .bool d.spaced, .int .i64 d.lbe, .int .i64 d.rop, .bool d.rfp]
theorem Drt.size (d : Drt) : d.cells.size = 32 := rfl
theorem Drt.one (d : Drt) : d.cells.all (·.oneCell') = true := by simp [Drt.cells, Value.oneCell']

/-- the slice of bytes (a, n, c) holds f 0 .. f (n-1); nil is empty -/
def BRow (w : World) (a : Option Addr) (n c : Nat) (f : Nat → Int) : Prop := IRow .u8 w a n f ∧ (a = none → n = 0 ∧ c = 0)
theorem BRow.below {w w' : World} {a : Option Addr} {n c : Nat} {f : Nat → Int} (h : BRow w a n c f) (hb : Below w.heap.size w w') : BRow w' a n c f := ⟨h.1.below hb, h.2⟩
/-- a copy of a slice of bytes -/
def Cl (a : Option Addr) (n : Nat) (f : Nat → Int) (w : World) (e : Ending) (w' : World) : Prop :=
  ∃ y, e = .returned (.slice y n n) ∧ y.isNone = a.isNone ∧ BRow w' y n n f ∧ Below w.heap.size w w'
theorem clone_any (a : Option Addr) (n c : Nat) (f : Nat → Int) (w : World) (h : BRow w a n c f) (hn : n ≤ 1048576) : Calls Try.prog 26 #[.slice a n c] w (Cl a n f w) := by
  cases a with
  | none =>
    obtain ⟨rfl, rfl⟩ := h.2 rfl
    refine (CB.clone_nil w).mono fun e w' ⟨he, hw⟩ => ?_
    subst hw
    exact ⟨none, he, rfl, ⟨fun i hi => by omega, fun _ => ⟨rfl, rfl⟩⟩, Below.refl _ _⟩
  | some x =>
    have hc : ∀ i, i < n → w.cell? (x.add i) = some (.int .u8 (f i)) := fun i hi => by
      obtain ⟨y, hy, hc⟩ := h.1 i hi
      obtain rfl : x = y := by simpa using hy
      exact hc
    refine (CB.clone_row x n c f w (fun h0 => ?_) hc hn).mono fun e w' ⟨he, _, h3, h4⟩ => ?_
    · have := World.block_lt_of_cell? w _ (hc 0 h0)
      rwa [CB.cell_add] at this
    · exact ⟨_, he, rfl, ⟨fun i hi => ⟨_, rfl, by rw [show (⟨w.heap.size, 0, none⟩ : Addr).add i = ⟨w.heap.size, i, none⟩ by unfold Addr.add; split <;> simp_all]; exact h3 i hi⟩, (fun h => by cases h)⟩, h4⟩

/-- the slice of slices of bytes (a, n): each lies there, with its bytes -/
def HRow (w : World) (a : Option Addr) (n : Nat) : Prop := ∀ i, i < n → ∃ x A N C f, a = some x ∧ w.cell? (x.add i) = some (.slice A N C) ∧ BRow w A N C f ∧ N ≤ 9223372036854775807
theorem HRow.below {w w' : World} {a : Option Addr} {n : Nat} (h : HRow w a n) (hb : Below w.heap.size w w') : HRow w' a n := fun i hi => by
  obtain ⟨x, A, N, C, f, hx, hc, hr, hN⟩ := h i hi
  exact ⟨x, A, N, C, f, hx, (hb.cell (p := x.add i) (World.block_lt_of_cell? w _ hc)).trans hc, hr.below hb, hN⟩
/-- no inner slice is longer than 2^20 -/
def HSmall (w : World) (a : Option Addr) (n : Nat) : Prop := ∀ i, i < n → ∀ x A N C, a = some x → w.cell? (x.add i) = some (.slice A N C) → N ≤ 1048576

theorem infoS : (Try.prog.info? 54).map (fun i => (i.zero, i.size, i.bytes)) = some (some (.slice none 0 0), 1, 24) := by kernel_rfl
theorem make_sl (n : Nat) (hn : n ≤ 1048576) (w : World) : (Instr.makeSlice 68 (.int .i64 n) (.int .i64 n)).run Try.prog w = .ok (.slice (some ⟨w.heap.size, 0, none⟩) n n) (w.alloc (.cells (madeCells #[.slice none 0 0] n) 54)) := by
  obtain ⟨i, hi, hz0, hz1, hz2⟩ := info_parts infoS
  have hr := run_make (P := Try.prog) w 68 54 i (.slice none 0 0) Try.underlying68 hi hz0 .i64 .i64 n n (by omega) (by omega) (by rw [hz2]; omega) (by omega)
  simp only [Int.toNat_natCast, hz1, Nat.mul_one] at hr
  exact hr
/-- block L is a row of n cells of the call's own -/
def Row2 (w w' : World) (L n : Nat) : Prop := ∃ D, w'.heap[L]? = some (.cells D 54 (0, 0)) ∧ D.size = n ∧ w.heap.size ≤ L ∧ Below w.heap.size w w'
theorem Row2.cell {w w' : World} {L n : Nat} (h : Row2 w w' L n) (k : Nat) (hk : k < n) : (∃ v, w'.cell? ⟨L, k, none⟩ = some v) ∧ w'.frozen? ⟨L, k, none⟩ = false := by
  obtain ⟨D, h1, h2, h3, h4⟩ := h
  exact ⟨⟨_, (cell_of_row w' L k D _ _ h1).trans (Array.getElem?_eq_getElem (by omega))⟩, by simp [World.frozen?, h1]⟩
theorem Row2.lt {w w' : World} {L n : Nat} (h : Row2 w w' L n) : L < w'.heap.size := by
  obtain ⟨D, h1, h2, h3, h4⟩ := h
  rcases Nat.lt_or_ge L w'.heap.size with hlt | hge
  · exact hlt
  · rw [Array.getElem?_eq_none hge] at h1; cases h1
theorem Row2.below {w w' w2 : World} {L n : Nat} (h : Row2 w w' L n) (hb : Below w'.heap.size w' w2) : Row2 w w2 L n := by
  have hl := h.lt
  obtain ⟨D, h1, h2, h3, h4⟩ := h
  exact ⟨D, (hb.block L hl).trans h1, h2, h3, h4.trans (hb.mono h4.size)⟩
theorem Row2.put {w w' : World} {L n : Nat} (h : Row2 w w' L n) (k : Nat) (u : Value) : Row2 w (w'.setCell ⟨L, k, none⟩ u) L n := by
  obtain ⟨D, h1, h2, h3, h4⟩ := h
  exact ⟨D.setIfInBounds k u, by simp [World.setCell, Array.getElem?_modify, h1], by simp [h2], h3, h4.setCell h3 _⟩
theorem sl2_eql (w : World) (a : Option Addr) (n c : Nat) : (binOp .eql 68 (.slice a n c) (.slice none 0 0)).run Try.prog w = .ok (.bool a.isNone) w := Lib.run_eql_slice_nil w 68 54 a n c 0 0 Try.underlying68
/-- some slice is returned; nothing that was there has turned -/
def AnySl (w : World) (e : Ending) (w' : World) : Prop := ∃ y m d, e = .returned (.slice y m d) ∧ Below w.heap.size w w'
def Rel2 (w : World) (L n : Nat) (i : Value) (wr : World) : Prop := ∃ k : Nat, k ≤ n ∧ i = .int .i64 k ∧ Row2 w wr L n
set_option maxRecDepth 100000 in
set_option maxHeartbeats 4000000 in
theorem clone2_any (a : Option Addr) (n c : Nat) (w : World) (h : HRow w a n) (h0 : a = none → n = 0 ∧ c = 0) (hs : HSmall w a n) (hn : n ≤ 1048576) :
    Calls Try.prog 54 #[.slice a n c] w (AnySl w) := by
  have q1 := sl2_eql
  cases a with
  | none =>
    obtain ⟨rfl, rfl⟩ := h0 rfl
    clear h h0 hs
    go_enter Try.func54, Try.ntmps54
    go_wp2
    go_ret
    exact ⟨_, _, _, rfl, Below.refl _ _⟩
  | some x =>
    have hmk := make_sl n hn
    have H := Lib.hid h
    have HS := Lib.hid hs
    clear h h0 hs
    go_enter Try.func54, Try.ntmps54
    go_wp2
    have hR : Row2 w (w.alloc (.cells (madeCells #[.slice none 0 0] n) 54)) w.heap.size n := ⟨_, heap_alloc_new w _, size_madeCells _ _, Nat.le_refl _, (Below.refl _ _).alloc (Nat.le_refl _) _⟩
    have HR := Lib.hid hR
    clear hR hmk
    generalize (w.alloc (.cells (madeCells #[.slice none 0 0] n) 54)) = W1 at *
    go_loopw [4] (fun i wr => Rel2 w w.heap.size n i wr) (fun i _ => n - (intOf i).toNat)
    case atStart => exact ⟨0, Nat.zero_le _, rfl, HR.out⟩
    case round =>
      obtain ⟨k, hk, rfl, hrow⟩ := hrel
      have HW := Lib.hid hrow
      clear hrow HR
      by_cases hlt : k < n
      · obtain ⟨x', A, N, C, f, hx, hc, hr, hN⟩ := H.out k hlt
        obtain rfl : x = x' := by simpa using hx
        have hsm := HS.out k hlt x A N C rfl hc
        obtain ⟨_, _, _, _, hbel⟩ := HW.out
        have hcv : wr.cell? (x.add k) = some (.slice A N C) := (hbel.cell (p := x.add k) (World.block_lt_of_cell? w _ hc)).trans hc
        have HB := Lib.hid (hr.below hbel)
        have i0 : (0 : Int) ≤ (k : Int) := by omega
        have i1 : (k : Int) < (n : Int) := by omega
        clear hc hbel hr hx
        go_wp2_with (go_at_call 26; refine (clone_any A N C f _ HB.out hsm).mono ?_; rintro e w2 ⟨y, rfl, -, -, hb2⟩
                     have HW2 := Lib.hid (HW.out.below hb2)
                     obtain ⟨⟨v0, hv0⟩, hf0⟩ := HW2.out.cell k hlt
                     clear hb2)
        go_roundw
        case rel => exact ⟨k + 1, by omega, by go_num, HW2.out.put _ _⟩
        case measure => simp [intOf]; omega
      · have hkn : ¬ (k : Int) < (n : Int) := by omega
        obtain ⟨_, _, _, _, hbel⟩ := HW.out
        have HB := Lib.hid hbel
        clear hbel
        go_wp2
        go_ret
        exact ⟨_, _, _, rfl, HB.out⟩
end DT
end Go.Proofs.Ytknilfihibmgdaa
