/- The contract of Pos.After at a valid receiver, and what a walk keeps of four positions in memory (MxS). Conditions: those that each theorem names. -/
import Derived.Test.YtknilfihibmgdaaWhile
namespace Go.Proofs.Ytknilfihibmgdaa
open Go.RowKit

theorem after_any (a b c d : Int) (w : World) (h : validB a b = true) :
    Calls Try.prog 36 #[posV a b, posV c d] w fun e w' => e = .returned (.bool (decide (c < a))) ∧ ((w.alloc (posC a b)).alloc (posC c d)).alloc (posC a b) = w' := by
  go_enter Try.func36, Try.ntmps36
  go_wp2_with (go_at_call 53; refine (isValid_any _ _ _).mono ?_; rintro e w1 ⟨rfl, rfl⟩)
  go_ret
  exact ⟨rfl, rfl⟩
theorem line_E (o lc l : Int) (w : World) (h0 : 0 ≤ lc) (h1 : lc ≤ 4294967295) (h : lc / 16384 = l) :
    Calls Try.prog 37 #[posV o lc] w fun e w' => e = .returned (.int .u64 l) ∧ w.alloc (posC o lc) = w' := by
  have := line_any o lc w h0 h1
  rwa [h] at this
/-- what the later statements keep: the four positions in memory, and all that was there -/
def MxS (w : World) (A B R Q : Nat) (a0 a1 a2 a3 r0 r1 q0 q1 : Int) (W : World) : Prop :=
  W.cell? ⟨A, 0, none⟩ = some (.int .u32 a0) ∧ W.cell? ⟨A, 1, none⟩ = some (.int .u32 a1) ∧ W.cell? ⟨B, 0, none⟩ = some (.int .u32 a2) ∧ W.cell? ⟨B, 1, none⟩ = some (.int .u32 a3) ∧
  W.cell? ⟨R, 0, none⟩ = some (.int .u32 r0) ∧ W.cell? ⟨R, 1, none⟩ = some (.int .u32 r1) ∧ W.cell? ⟨Q, 0, none⟩ = some (.int .u32 q0) ∧ W.cell? ⟨Q, 1, none⟩ = some (.int .u32 q1) ∧ Below w.heap.size w W
theorem ms_drew {w W : World} {A B R Q : Nat} {a0 a1 a2 a3 r0 r1 q0 q1 : Int} (h : MxS w A B R Q a0 a1 a2 a3 r0 r1 q0 q1 W) : MxS w A B R Q a0 a1 a2 a3 r0 r1 q0 q1 W.drew :=
  ⟨h.1, h.2.1, h.2.2.1, h.2.2.2.1, h.2.2.2.2.1, h.2.2.2.2.2.1, h.2.2.2.2.2.2.1, h.2.2.2.2.2.2.2.1, h.2.2.2.2.2.2.2.2.drew⟩
theorem ms_alloc {w W : World} {A B R Q : Nat} {a0 a1 a2 a3 r0 r1 q0 q1 : Int} (x : Obj) (h : MxS w A B R Q a0 a1 a2 a3 r0 r1 q0 q1 W) : MxS w A B R Q a0 a1 a2 a3 r0 r1 q0 q1 (W.alloc x) :=
  ⟨kb h.1, kb h.2.1, kb h.2.2.1, kb h.2.2.2.1, kb h.2.2.2.2.1, kb h.2.2.2.2.2.1, kb h.2.2.2.2.2.2.1, kb h.2.2.2.2.2.2.2.1, bal h.2.2.2.2.2.2.2.2 _⟩
theorem ms_step {w W W' : World} {x : Obj} {A B R Q : Nat} {a0 a1 a2 a3 r0 r1 q0 q1 : Int} (hw : W.alloc x = W') (h : MxS w A B R Q a0 a1 a2 a3 r0 r1 q0 q1 W) : MxS w A B R Q a0 a1 a2 a3 r0 r1 q0 q1 W' := hw ▸ ms_alloc x h
theorem ms_step3 {w W W' : World} {x y z : Obj} {A B R Q : Nat} {a0 a1 a2 a3 r0 r1 q0 q1 : Int} (hw : ((W.alloc x).alloc y).alloc z = W') (h : MxS w A B R Q a0 a1 a2 a3 r0 r1 q0 q1 W) : MxS w A B R Q a0 a1 a2 a3 r0 r1 q0 q1 W' := hw ▸ ms_alloc z (ms_alloc y (ms_alloc x h))
end Go.Proofs.Ytknilfihibmgdaa
