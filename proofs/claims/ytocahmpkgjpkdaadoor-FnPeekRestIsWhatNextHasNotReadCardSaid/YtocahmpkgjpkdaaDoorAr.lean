/- The contract of zzAppendRune: the row of bytes that the call owns grows by the rune's encoding. Conditions: the row is the call's own and short; the rune is a valid one. (Walk after the kit's worked utf8.AppendRune.) -/
import Derived.Test.YtocahmpkgjpkdaaDoorRows
import Derived.WalkKit
import Derived.WalkSpells
import Derived.WalkLawsBesides
import Derived.Lib.Hide
import Derived.OwnWalk
import Derived.Below
import Derived.Shelf.Strings.BuilderK
import Derived.Lib.RuneBytes
namespace Go.Proofs.YtocahmpkgjpkdaaDoor
open Go.RowKit
namespace AR

theorem info5 : (Tryd.prog.info? 5).map (fun i => (i.zero, i.size, i.bytes)) = some (some (.int .u8 0), 1, 1) := by kernel_rfl
theorem and63 (x : Int) (h0 : 0 ≤ x) (h1 : x < 2147483648) : bits .and .i32 x 63 = x % 64 := bits_mask .i32 31 (by decide) wraps_i32 6 (by decide) x h0 h1
theorem and7 (x : Int) (h0 : 0 ≤ x) (h1 : x < 8) : bits .and .i32 x 7 = x := by rw [show bits .and .i32 x 7 = x % 8 from bits_mask .i32 31 (by decide) wraps_i32 3 (by decide) x h0 (by omega)]; omega
theorem or224 (y : Int) (h0 : 0 ≤ y) (h1 : y < 16) : bits .or .i32 224 y = 224 + y := bits_join .i32 31 (by decide) wraps_i32 5 224 y (by decide) (by decide) (by decide) h0 (by omega) (by omega)
theorem or240 (y : Int) (h0 : 0 ≤ y) (h1 : y < 8) : bits .or .i32 240 y = 240 + y := bits_join .i32 31 (by decide) wraps_i32 4 240 y (by decide) (by decide) (by decide) h0 (by omega) (by omega)
theorem or128 (y : Int) (h0 : 0 ≤ y) (h1 : y < 64) : bits .or .i32 128 y = 128 + y := bits_join .i32 31 (by decide) wraps_i32 6 128 y (by decide) (by decide) (by decide) h0 (by omega) (by omega)
theorem or192 (y : Int) (h0 : 0 ≤ y) (h1 : y < 32) : bits .or .i32 192 y = 192 + y := bits_join .i32 31 (by decide) wraps_i32 6 192 y (by decide) (by decide) (by decide) h0 (by omega) (by omega)
/-- what an append of these cells leaves -/
def Grew (B : Nat) (v : Value) (n : Nat) (xs ys : List Value) (w : World) (e : Ending) (w' : World) : Prop :=
  ∃ v', e = .returned v' ∧ w'.ownsRow B 5 1 v' (n + ys.length) (xs ++ ys) ∧ ∃ o, (w.alloc o).grownBy w' v.ownBlock
set_option maxHeartbeats 4000000 in
set_option maxRecDepth 100000 in
theorem one (B : Nat) (v : Value) (n : Nat) (xs : List Value) (r : Int) (h0 : 0 ≤ r) (h1 : r ≤ 127) (w : World) (hown : w.ownsRow B 5 1 v n xs) (hlen : n + 4 ≤ 140737488355328) (hBw : B ≤ w.heap.size) :
    Calls Tryd.prog 11 #[v, .int .i32 r] w (Grew B v n xs [.int .u8 r] w) := by
  obtain ⟨i0, hi, hz0, hz1, hz2⟩ := info_parts info5
  go_enter Tryd.func11, Tryd.ntmps11
  go_wp2_with (at_builtin; go_must (refine wpList_append_own _ rfl _ _ 25 rfl B 5 i0 (.int .u8 0) 1 1 Tryd.underlying25 hi hz0 hz1 hz2 rfl (by decide) _ _ _ rfl (hown.alloc _) ⟨w.heap.size, 0, none⟩ 1 1 [.int .u8 r] rfl rfl ?c1 ?c2 ?c3 ?c4 ?c5 ?_))
  case c1 =>
    intro j u hj
    match j, hj with
    | 0, hj => (simp at hj; subst hj; simp [Addr.add] <;> omega)
    | (j + 1), hj => simp at hj
  case c2 => intro u hu; simp at hu; subst hu; rfl
  case c3 => unfold maxLen; omega
  case c4 => omega
  case c5 => simp; omega
  intro v' w2 hown' hgrow _
  go_wp2
  go_ret
  exact ⟨_, rfl, hown', _, hgrow⟩
set_option maxHeartbeats 4000000 in
set_option maxRecDepth 100000 in
theorem two (B : Nat) (v : Value) (n : Nat) (xs : List Value) (r : Int) (h0 : 128 ≤ r) (h1 : r ≤ 2047) (w : World) (hown : w.ownsRow B 5 1 v n xs) (hlen : n + 4 ≤ 140737488355328) (hBw : B ≤ w.heap.size) :
    Calls Tryd.prog 11 #[v, .int .i32 r] w (Grew B v n xs [.int .u8 (192 + r / 64), .int .u8 (128 + r % 64)] w) := by
  obtain ⟨i0, hi, hz0, hz1, hz2⟩ := info_parts info5
  have q1 := and63 r (by omega) (by omega)
  have q2 := or128 (r % 64) (by omega) (by omega)
  have q3 := or192 (r / 64) (by omega) (by omega)
  go_enter Tryd.func11, Tryd.ntmps11
  go_wp2_with (at_builtin; go_must (refine wpList_append_own _ rfl _ _ 25 rfl B 5 i0 (.int .u8 0) 1 1 Tryd.underlying25 hi hz0 hz1 hz2 rfl (by decide) _ _ _ rfl (hown.alloc _) ⟨w.heap.size, 0, none⟩ 2 2 [.int .u8 (192 + r / 64), .int .u8 (128 + r % 64)] rfl rfl ?c1 ?c2 ?c3 ?c4 ?c5 ?_))
  case c1 =>
    intro j u hj
    match j, hj with
    | 0, hj => (simp at hj; subst hj; simp [Addr.add] <;> omega)
    | 1, hj => (simp at hj; subst hj; simp [Addr.add] <;> omega)
    | (j + 2), hj => simp at hj
  case c2 => intro u hu; simp at hu; rcases hu with rfl | rfl <;> rfl
  case c3 => unfold maxLen; omega
  case c4 => omega
  case c5 => simp; omega
  intro v' w2 hown' hgrow _
  go_wp2
  go_ret
  exact ⟨_, rfl, hown', _, hgrow⟩
set_option maxHeartbeats 4000000 in
set_option maxRecDepth 100000 in
theorem three (B : Nat) (v : Value) (n : Nat) (xs : List Value) (r : Int) (h0 : 2048 ≤ r) (h1 : r ≤ 65535) (w : World) (hown : w.ownsRow B 5 1 v n xs) (hlen : n + 4 ≤ 140737488355328) (hBw : B ≤ w.heap.size) :
    Calls Tryd.prog 11 #[v, .int .i32 r] w (Grew B v n xs [.int .u8 (224 + r / 4096), .int .u8 (128 + r / 64 % 64), .int .u8 (128 + r % 64)] w) := by
  obtain ⟨i0, hi, hz0, hz1, hz2⟩ := info_parts info5
  have q1 := and63 r (by omega) (by omega)
  have q2 := or128 (r % 64) (by omega) (by omega)
  have q3 := and63 (r / 64) (by omega) (by omega)
  have q4 := or128 (r / 64 % 64) (by omega) (by omega)
  have q5 := or224 (r / 4096) (by omega) (by omega)
  go_enter Tryd.func11, Tryd.ntmps11
  go_wp2_with (at_builtin; go_must (refine wpList_append_own _ rfl _ _ 25 rfl B 5 i0 (.int .u8 0) 1 1 Tryd.underlying25 hi hz0 hz1 hz2 rfl (by decide) _ _ _ rfl (hown.alloc _) ⟨w.heap.size, 0, none⟩ 3 3 [.int .u8 (224 + r / 4096), .int .u8 (128 + r / 64 % 64), .int .u8 (128 + r % 64)] rfl rfl ?c1 ?c2 ?c3 ?c4 ?c5 ?_))
  case c1 =>
    intro j u hj
    match j, hj with
    | 0, hj => (simp at hj; subst hj; simp [Addr.add] <;> omega)
    | 1, hj => (simp at hj; subst hj; simp [Addr.add] <;> omega)
    | 2, hj => (simp at hj; subst hj; simp [Addr.add] <;> omega)
    | (j + 3), hj => simp at hj
  case c2 => intro u hu; simp at hu; rcases hu with rfl | rfl | rfl <;> rfl
  case c3 => unfold maxLen; omega
  case c4 => omega
  case c5 => simp; omega
  intro v' w2 hown' hgrow _
  go_wp2
  go_ret
  exact ⟨_, rfl, hown', _, hgrow⟩
set_option maxHeartbeats 4000000 in
set_option maxRecDepth 100000 in
theorem four (B : Nat) (v : Value) (n : Nat) (xs : List Value) (r : Int) (h0 : 65536 ≤ r) (h1 : r ≤ 1114111) (w : World) (hown : w.ownsRow B 5 1 v n xs) (hlen : n + 4 ≤ 140737488355328) (hBw : B ≤ w.heap.size) :
    Calls Tryd.prog 11 #[v, .int .i32 r] w (Grew B v n xs [.int .u8 (240 + r / 262144), .int .u8 (128 + r / 4096 % 64), .int .u8 (128 + r / 64 % 64), .int .u8 (128 + r % 64)] w) := by
  obtain ⟨i0, hi, hz0, hz1, hz2⟩ := info_parts info5
  have q1 := and63 r (by omega) (by omega)
  have q2 := or128 (r % 64) (by omega) (by omega)
  have q3 := and63 (r / 64) (by omega) (by omega)
  have q4 := or128 (r / 64 % 64) (by omega) (by omega)
  have q5 := and63 (r / 4096) (by omega) (by omega)
  have q6 := or128 (r / 4096 % 64) (by omega) (by omega)
  have q7 := and7 (r / 262144) (by omega) (by omega)
  have q8 := or240 (r / 262144) (by omega) (by omega)
  go_enter Tryd.func11, Tryd.ntmps11
  go_wp2_with (at_builtin; go_must (refine wpList_append_own _ rfl _ _ 25 rfl B 5 i0 (.int .u8 0) 1 1 Tryd.underlying25 hi hz0 hz1 hz2 rfl (by decide) _ _ _ rfl (hown.alloc _) ⟨w.heap.size, 0, none⟩ 4 4 [.int .u8 (240 + r / 262144), .int .u8 (128 + r / 4096 % 64), .int .u8 (128 + r / 64 % 64), .int .u8 (128 + r % 64)] rfl rfl ?c1 ?c2 ?c3 ?c4 ?c5 ?_))
  case c1 =>
    intro j u hj
    match j, hj with
    | 0, hj => (simp at hj; subst hj; simp [Addr.add] <;> omega)
    | 1, hj => (simp at hj; subst hj; simp [Addr.add] <;> omega)
    | 2, hj => (simp at hj; subst hj; simp [Addr.add] <;> omega)
    | 3, hj => (simp at hj; subst hj; simp [Addr.add] <;> omega)
    | (j + 4), hj => simp at hj
  case c2 => intro u hu; simp at hu; rcases hu with rfl | rfl | rfl | rfl <;> rfl
  case c3 => unfold maxLen; omega
  case c4 => omega
  case c5 => simp; omega
  intro v' w2 hown' hgrow _
  go_wp2
  go_ret
  exact ⟨_, rfl, hown', _, hgrow⟩
/-- a valid rune: the row grows by its encoding -/
theorem any (B : Nat) (v : Value) (n : Nat) (xs : List Value) (r : Int) (h0 : 0 ≤ r) (h1 : r ≤ 1114111) (hs : r < 55296 ∨ 57343 < r) (w : World) (hown : w.ownsRow B 5 1 v n xs) (hlen : n + 4 ≤ 140737488355328) (hBw : B ≤ w.heap.size) :
    Calls Tryd.prog 11 #[v, .int .i32 r] w (Grew B v n xs (Lib.runeCells r) w) := by
  by_cases a : r ≤ 127
  · have := one B v n xs r h0 a w hown hlen hBw
    rwa [show Lib.runeCells r = [.int .u8 r] by simp [Lib.runeCells, Lib.encodeRuneZ_one h0 a]]
  by_cases b : r ≤ 2047
  · have := two B v n xs r (by omega) b w hown hlen hBw
    rwa [show Lib.runeCells r = [.int .u8 (192 + r / 64), .int .u8 (128 + r % 64)] by simp [Lib.runeCells, Lib.encodeRuneZ_two (r := r) (by omega) b]]
  by_cases c : r ≤ 65535
  · have := three B v n xs r (by omega) c w hown hlen hBw
    rwa [show Lib.runeCells r = [.int .u8 (224 + r / 4096), .int .u8 (128 + r / 64 % 64), .int .u8 (128 + r % 64)] by simp [Lib.runeCells, Lib.encodeRuneZ_three (r := r) (by omega)]]
  · have := four B v n xs r (by omega) h1 w hown hlen hBw
    rwa [show Lib.runeCells r = [.int .u8 (240 + r / 262144), .int .u8 (128 + r / 4096 % 64), .int .u8 (128 + r / 64 % 64), .int .u8 (128 + r % 64)] by simp [Lib.runeCells, Lib.encodeRuneZ_four (r := r) (by omega) h1]]
end AR
end Go.Proofs.YtocahmpkgjpkdaaDoor
