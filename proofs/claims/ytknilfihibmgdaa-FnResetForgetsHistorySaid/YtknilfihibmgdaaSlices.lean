/- Words for slices of strings and of integers that are read, nil let in. No conditions. -/
import Derived.Test.YtknilfihibmgdaaRows
import Derived.WalkKit
import Derived.Below
import Derived.Deep.Draws
namespace Go.Proofs.Ytknilfihibmgdaa
open Go.RowKit

/-- the slice that starts at a holds the strings f 0 .. f (n-1) -/
def SRow (w : World) (a : Option Addr) (n : Nat) (f : Nat → ByteArray) : Prop := ∀ i, i < n → ∃ x, a = some x ∧ w.cell? (x.add i) = some (.string (f i))
/-- the slice that starts at a holds the integers f 0 .. f (n-1) -/
def IRow (k : IntKind) (w : World) (a : Option Addr) (n : Nat) (f : Nat → Int) : Prop := ∀ i, i < n → ∃ x, a = some x ∧ w.cell? (x.add i) = some (.int k (f i))
theorem add_block (x : Addr) (i : Nat) : (x.add i).block = x.block := by unfold Addr.add; split <;> rfl
theorem SRow.below {w w' : World} {a : Option Addr} {n : Nat} {f : Nat → ByteArray} (h : SRow w a n f) (hb : Below w.heap.size w w') : SRow w' a n f := fun i hi => by
  obtain ⟨x, hx, hc⟩ := h i hi
  exact ⟨x, hx, (hb.cell (p := x.add i) (World.block_lt_of_cell? w _ hc)).trans hc⟩
theorem IRow.below {k : IntKind} {w w' : World} {a : Option Addr} {n : Nat} {f : Nat → Int} (h : IRow k w a n f) (hb : Below w.heap.size w w') : IRow k w' a n f := fun i hi => by
  obtain ⟨x, hx, hc⟩ := h i hi
  exact ⟨x, hx, (hb.cell (p := x.add i) (World.block_lt_of_cell? w _ hc)).trans hc⟩
theorem SRow.heap {w w' : World} {a : Option Addr} {n : Nat} {f : Nat → ByteArray} (h : SRow w a n f) (hh : w.heap = w'.heap) : SRow w' a n f := fun i hi => by
  obtain ⟨x, hx, hc⟩ := h i hi
  exact ⟨x, hx, by rw [← hc]; unfold World.cell?; rw [hh]⟩
theorem IRow.heap {k : IntKind} {w w' : World} {a : Option Addr} {n : Nat} {f : Nat → Int} (h : IRow k w a n f) (hh : w.heap = w'.heap) : IRow k w' a n f := fun i hi => by
  obtain ⟨x, hx, hc⟩ := h i hi
  exact ⟨x, hx, by rw [← hc]; unfold World.cell?; rw [hh]⟩
/-- P, where x is true -/
def OnTrue (x : Bool) (P : Prop) : Prop := x = true → P
/-- some bool is returned, and P where it is true; the world stays -/
def AnyBool (P : Prop) (w : World) (e : Ending) (w' : World) : Prop := ∃ x : Bool, e = .returned (.bool x) ∧ OnTrue x P ∧ w = w'
/-- some small number is returned; the world stays -/
def AnyNat (N : Nat) (w : World) (e : Ending) (w' : World) : Prop := ∃ r : Nat, e = .returned (.int .i64 r) ∧ r ≤ N ∧ w = w'
theorem below_drewN {B : Nat} {a w : World} (h : Below B a w) (n : Nat) : Below B a (w.drewN n) := ⟨h.os, h.tape, h.output, h.size, h.block⟩
end Go.Proofs.Ytknilfihibmgdaa
