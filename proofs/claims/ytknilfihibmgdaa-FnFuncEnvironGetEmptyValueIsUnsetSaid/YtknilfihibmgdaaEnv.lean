/- The contracts of FuncEnviron, funcEnviron.Get over zzDropFirst, and the Variable methods and tests of n010_48 at the two Variables that occur. Conditions: those that each contract names. -/
import Derived.Test.YtknilfihibmgdaaRows
import Derived.WalkKit
import Derived.WalkSpells
import Derived.WalkLawsBesides
import Derived.Lib.Hide
import Derived.Outline
import Derived.Below
import Derived.Laws.EntriesVeiled
import Derived.Deep.QuietTactic
import Derived.BigQuiet
namespace Go.Proofs.Ytknilfihibmgdaa
open Go.RowKit

theorem bal {w W : World} (h : Below w.heap.size w W) (o : Obj) : Below w.heap.size w (W.alloc o) := h.alloc h.size o
abbrev dropF : Value := .func (Fn.func 18) #[] #[]
/-- the Variable of an empty value, and the one of another -/
abbrev zeroV : Value := .agg #[.bool false, .bool false, .bool false, .bool false, .int .u8 0, .string ⟨#[]⟩, .slice none 0 0, .map none, .slice none 0 0]
abbrev strV (s : ByteArray) : Value := .agg #[.bool true, .bool false, .bool true, .bool false, .int .u8 1, .string s, .slice none 0 0, .map none, .slice none 0 0]
theorem meth_get (w : World) : (method 256 89 dropF "Get").run Try.prog w = .ok (87, dropF) w := by kernel_rfl
theorem bytes_ok (s : ByteArray) (w : World) (h : s.size ≤ 1048576) : Calls Try.prog 16 #[.string s] w fun e w' => e = .returned (.bool true) ∧ w = w' := by
  go_enter Try.func16, Try.ntmps16
  go_wp2
  go_ret
  exact ⟨rfl, rfl⟩
theorem bytes_no (s : ByteArray) (w : World) (h : 1048576 < s.size) (hm : s.size ≤ 9223372036854775807) : Calls Try.prog 16 #[.string s] w fun e w' => e = .returned (.bool false) ∧ w = w' := by
  go_enter Try.func16, Try.ntmps16
  go_wp2
  go_ret
  exact ⟨rfl, rfl⟩
theorem env_any (w : World) : Calls Try.prog 17 #[dropF] w fun e w' => e = .returned (.iface 89 dropF) ∧ w = w' := by
  go_enter Try.func17, Try.ntmps17
  go_wp2
  go_ret
  exact ⟨rfl, rfl⟩
theorem drop_zero (w : World) (s : ByteArray) (h : s.size = 0) : Calls Try.prog 18 #[.string s] w fun e w' => e = .returned (.string ⟨#[]⟩) ∧ w = w' := by
  have hb : ((s.size : Int) == 0) = true := by simp [h]
  clear h
  go_enter Try.func18, Try.ntmps18
  go_wp2
  go_ret
  exact ⟨rfl, rfl⟩
theorem drop_some (w : World) (s : ByteArray) (h : 1 ≤ s.size) (hm : s.size ≤ 1048576) : Calls Try.prog 18 #[.string s] w fun e w' => e = .returned (.string (s.extract 1 s.size)) ∧ w = w' := by
  have hb : ((s.size : Int) == 0) = false := beq_eq_false_iff_ne.2 (by omega)
  go_enter Try.func18, Try.ntmps18
  go_wp2
  go_ret
  exact ⟨rfl, rfl⟩
/-- what the function makes of a name -/
theorem drop_any (w : World) (s : ByteArray) (hm : s.size ≤ 1048576) : Calls Try.prog 18 #[.string s] w fun e w' => e = .returned (.string (s.extract 1 s.size)) ∧ w = w' := by
  by_cases h : s.size = 0
  · refine (drop_zero w s h).mono fun e w' ⟨he, hw⟩ => ⟨?_, hw⟩
    rw [he]
    have : s.extract 1 s.size = ⟨#[]⟩ := by
      apply ByteArray.ext
      simp [h]
    rw [this]
  · exact drop_some w s (by omega) hm
theorem get_zero (s : ByteArray) (w : World) (hm : s.size ≤ 1048576) (he : (s.extract 1 s.size).toList.isEmpty = true) : Calls Try.prog 87 #[dropF, .string s] w fun e w' => e = .returned zeroV ∧ Below w.heap.size w w' := by
  go_enter Try.func87, Try.ntmps87
  go_wp2_with (go_at_call 18; refine (drop_any _ s hm).mono ?_; rintro e w' ⟨rfl, rfl⟩)
  exact bodyPost_ret (v := zeroV) (by simp [results, Try.results87, go_sem]) rfl ⟨rfl, by repeat (first | exact Below.refl _ _ | apply Below.drew | apply bal)⟩
theorem get_some (s : ByteArray) (w : World) (hm : s.size ≤ 1048576) (he : (s.extract 1 s.size).toList.isEmpty = false) : Calls Try.prog 87 #[dropF, .string s] w fun e w' => e = .returned (strV (s.extract 1 s.size)) ∧ Below w.heap.size w w' := by
  go_enter Try.func87, Try.ntmps87
  go_wp2_with (go_at_call 18; refine (drop_any _ s hm).mono ?_; rintro e w' ⟨rfl, rfl⟩)
  exact bodyPost_ret (v := strV (s.extract 1 s.size)) (by simp [results, Try.results87, go_sem]) rfl ⟨rfl, by repeat (first | exact Below.refl _ _ | apply Below.drew | apply bal)⟩
theorem isSet_zero (w : World) : Calls Try.prog 20 #[zeroV] w fun e w' => e = .returned (.bool false) ∧ Below w.heap.size w w' := by
  go_enter Try.func20, Try.ntmps20
  go_wp2
  go_ret
  exact ⟨rfl, by repeat (first | exact Below.refl _ _ | apply Below.drew | apply bal)⟩
theorem declared_zero (w : World) : Calls Try.prog 21 #[zeroV] w fun e w' => e = .returned (.bool false) ∧ Below w.heap.size w w' := by
  go_enter Try.func21, Try.ntmps21
  go_wp2
  go_ret
  exact ⟨rfl, by repeat (first | exact Below.refl _ _ | apply Below.drew | apply bal)⟩
theorem string_zero (w : World) : Calls Try.prog 22 #[zeroV] w fun e w' => e = .returned (.string ⟨#[]⟩) ∧ Below w.heap.size w w' := by
  go_enter Try.func22, Try.ntmps22
  go_wp2
  go_ret
  exact ⟨rfl, by repeat (first | exact Below.refl _ _ | apply Below.drew | apply bal)⟩
set_option maxHeartbeats 1000000 in
theorem same_zero (w : World) : Calls Try.prog 23 #[zeroV, zeroV] w fun e w' => e = .returned (.bool true) ∧ Below w.heap.size w w' := by
  have q1 := fun (w : World) => Lib.run_eql_slice_nil (P := Try.prog) w 43 9 none 0 0 0 0 Try.underlying43
  have q2 := fun (w : World) => Lib.run_eql_slice_nil (P := Try.prog) w 45 3 none 0 0 0 0 Try.underlying45
  have q3 := fun (w : World) => run_eql_map_nil (P := Try.prog) w 44 _ _ none Try.underlying44
  go_enter Try.func23, Try.ntmps23
  go_wp2
  go_ret
  exact ⟨rfl, by repeat (first | exact Below.refl _ _ | apply Below.drew | apply bal)⟩
theorem isSet_str (s : ByteArray) (w : World) : Calls Try.prog 20 #[(strV s)] w fun e w' => e = .returned (.bool true) ∧ Below w.heap.size w w' := by
  go_enter Try.func20, Try.ntmps20
  go_wp2
  go_ret
  exact ⟨rfl, by repeat (first | exact Below.refl _ _ | apply Below.drew | apply bal)⟩
theorem declared_str (s : ByteArray) (w : World) : Calls Try.prog 21 #[(strV s)] w fun e w' => e = .returned (.bool true) ∧ Below w.heap.size w w' := by
  go_enter Try.func21, Try.ntmps21
  go_wp2
  go_ret
  exact ⟨rfl, by repeat (first | exact Below.refl _ _ | apply Below.drew | apply bal)⟩
theorem string_str (s : ByteArray) (w : World) : Calls Try.prog 22 #[(strV s)] w fun e w' => e = .returned (.string s) ∧ Below w.heap.size w w' := by
  go_enter Try.func22, Try.ntmps22
  go_wp2
  go_ret
  exact ⟨rfl, by repeat (first | exact Below.refl _ _ | apply Below.drew | apply bal)⟩
set_option maxHeartbeats 1000000 in
theorem same_str (s : ByteArray) (w : World) : Calls Try.prog 23 #[(strV s), (strV s)] w fun e w' => e = .returned (.bool true) ∧ Below w.heap.size w w' := by
  have q1 := fun (w : World) => Lib.run_eql_slice_nil (P := Try.prog) w 43 9 none 0 0 0 0 Try.underlying43
  have q2 := fun (w : World) => Lib.run_eql_slice_nil (P := Try.prog) w 45 3 none 0 0 0 0 Try.underlying45
  have q3 := fun (w : World) => run_eql_map_nil (P := Try.prog) w 44 _ _ none Try.underlying44
  go_enter Try.func23, Try.ntmps23
  go_wp2
  go_ret
  exact ⟨rfl, by repeat (first | exact Below.refl _ _ | apply Below.drew | apply bal)⟩
set_option maxHeartbeats 1000000 in
theorem isZero_zero (w : World) : Calls Try.prog 19 #[zeroV] w fun e w' => e = .returned (.bool true) ∧ Below w.heap.size w w' := by
  have q1 := fun (w : World) => Lib.run_eql_slice_nil (P := Try.prog) w 43 9 none 0 0 0 0 Try.underlying43
  have q2 := fun (w : World) => Lib.run_eql_slice_nil (P := Try.prog) w 45 3 none 0 0 0 0 Try.underlying45
  have q3 := fun (w : World) => run_eql_map_nil (P := Try.prog) w 44 _ _ none Try.underlying44
  go_enter Try.func19, Try.ntmps19
  go_wp2
  go_ret
  exact ⟨rfl, by repeat (first | exact Below.refl _ _ | apply Below.drew | apply bal)⟩
set_option maxHeartbeats 1000000 in
theorem isStr_str (s : ByteArray) (w : World) : Calls Try.prog 24 #[(strV s), .string s] w fun e w' => e = .returned (.bool true) ∧ Below w.heap.size w w' := by
  have q1 := fun (w : World) => Lib.run_eql_slice_nil (P := Try.prog) w 43 9 none 0 0 0 0 Try.underlying43
  have q2 := fun (w : World) => Lib.run_eql_slice_nil (P := Try.prog) w 45 3 none 0 0 0 0 Try.underlying45
  have q3 := fun (w : World) => run_eql_map_nil (P := Try.prog) w 44 _ _ none Try.underlying44
  go_enter Try.func24, Try.ntmps24
  go_wp2
  go_ret
  exact ⟨rfl, by repeat (first | exact Below.refl _ _ | apply Below.drew | apply bal)⟩
end Go.Proofs.Ytknilfihibmgdaa
