/- The parser's struct (2088 cells) as ZZNewState_n010_78 lays it, known by the cells that the laws of n010_78 read; the contract of peekRedir. -/
import Derived.Test.YtocahmpkgjpkdaaRows
import Derived.WalkKit
import Derived.WalkSpells
import Derived.WalkLawsBesides
import Derived.Lib.Hide
import Derived.Great.BuildSlice
namespace Go.Proofs.Ytocahmpkgjpkdaa
open Go.RowKit

theorem ret_bool {a b : Bool} (h : a = b) : Ending.returned (.bool a) = .returned (.bool b) := by rw [h]

theorem built_at (t e r l : Int) (s : ByteArray) : (Try.prog.built 63 [(10, .int .u32 t), (11, .string s), (17, .int .i64 e), (3, .int .i32 r), (19, .int .i64 l)]).map (fun C => (C.size, C[10]?, C[11]?, C[18]?, C[3]?, C[20]?)) = some (2088, some (.int .u32 t), some (.string s), some (.int .i64 e), some (.int .i32 r), some (.int .i64 l)) := by kernel_rfl
/-- the cells of such a parser that are read -/
def IsState (C : Array Value) (t e r l : Int) (s : ByteArray) : Prop := C.size = 2088 ∧ C[10]? = some (.int .u32 t) ∧ C[11]? = some (.string s) ∧ C[18]? = some (.int .i64 e) ∧ C[3]? = some (.int .i32 r) ∧ C[20]? = some (.int .i64 l)
theorem built_ex (t e r l : Int) (s : ByteArray) : ∃ C, Try.prog.built 63 [(10, .int .u32 t), (11, .string s), (17, .int .i64 e), (3, .int .i32 r), (19, .int .i64 l)] = some C ∧ IsState C t e r l s := by
  obtain ⟨C, hC, h⟩ := Option.map_eq_some_iff.1 (built_at t e r l s)
  simp only [Prod.mk.injEq] at h
  exact ⟨C, hC, h⟩
/-- what ZZNewState leaves: a new block, known by its cells -/
def NewState (t e r l : Int) (s : ByteArray) (w : World) (x : Ending) (w' : World) : Prop := ∃ C, x = .returned (.pointer (some ⟨w.heap.size, 0, none⟩)) ∧ w.alloc (.cells C 63) = w' ∧ IsState C t e r l s
set_option maxRecDepth 100000 in
set_option maxHeartbeats 1000000 in
theorem newState_any (t e r l : Int) (s : ByteArray) (w : World) :
    Calls Try.prog 9 #[.int .u32 t, .string s, .int .i64 e, .int .i32 r, .int .i64 l] w (NewState t e r l s w) := by
  obtain ⟨C, hC, hS⟩ := built_ex t e r l s
  have HC := Lib.hid hC
  have HS := Lib.hid hS
  clear hC hS
  go_enter Try.func9, Try.ntmps9
  go_wp2_with ((with_reducible refine wpList_buildTo rfl 63 _ rfl _ rfl C ?_ ?_); (focus (simp; exact HC.out)))
  go_ret
  exact ⟨C, rfl, rfl, HS.out⟩

/-- the literal-redirect token, or a redirection operator -/
def redirB (t : Int) : Bool := t == 5 || decide (63 ≤ t ∧ t ≤ 77)
set_option maxHeartbeats 1000000 in
theorem peekRedir_any (b : Nat) (t : Int) (w : World) (hc : w.cell? ⟨b, 10, none⟩ = some (.int .u32 t)) :
    Calls Try.prog 25 #[.pointer (some ⟨b, 0, none⟩)] w fun e w' => e = .returned (.bool (redirB t)) ∧ w = w' := by
  go_enter Try.func25, Try.ntmps25
  go_wp2
  all_goals
    go_ret
    refine ⟨ret_bool ?_, rfl⟩
    simp only [beq_iff_eq, beq_eq_false_iff_ne] at *
    rw [redirB]
    first | (subst_vars; rfl) | (symm; simp; omega)
end Go.Proofs.Ytocahmpkgjpkdaa
