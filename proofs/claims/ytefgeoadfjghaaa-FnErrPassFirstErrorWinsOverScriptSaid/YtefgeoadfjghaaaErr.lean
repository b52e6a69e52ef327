/- The contracts of errPass, NewParser and the readers of n010_97 over a parser that is known by its cells. Conditions: the state that each contract names. -/
import Derived.Test.YtefgeoadfjghaaaRows
import Derived.Test.YtefgeoadfjghaaaSlices
import Derived.WalkKit
import Derived.WalkSpells
import Derived.WalkLawsBesides
import Derived.Lib.Hide
import Derived.Outline
import Derived.Below
import Derived.RegionTactic
import Derived.BigRegion
import Derived.Great.BuildSlice
import Derived.Deep.DeepCutAuto
namespace Go.Proofs.Ytefgeoadfjghaaa
namespace EP
open Go.RowKit

abbrev posW (o lc : Int) : Value := .agg #[.int .u32 o, .int .u32 lc]
/-- a ParseError -/
abbrev peV (s : ByteArray) (o lc : Int) (t : ByteArray) (inc : Bool) : Value := .agg #[.string s, .int .u32 o, .int .u32 lc, .string t, .bool inc]
/-- the parser in block b by the cells that matter here: bs, bsp, r, w, err, tok -/
def PS (b : Nat) (v1 v2 v3 v4 v7 v10 : Value) (W : World) : Prop :=
  W.cell? ⟨b, 1, none⟩ = some v1 ∧ W.cell? ⟨b, 2, none⟩ = some v2 ∧ W.cell? ⟨b, 3, none⟩ = some v3 ∧ W.cell? ⟨b, 4, none⟩ = some v4 ∧ W.cell? ⟨b, 7, none⟩ = some v7 ∧ W.cell? ⟨b, 10, none⟩ = some v10 ∧
  W.frozen? ⟨b, 2, none⟩ = false ∧ W.frozen? ⟨b, 3, none⟩ = false ∧ W.frozen? ⟨b, 4, none⟩ = false ∧ W.frozen? ⟨b, 7, none⟩ = false ∧ W.frozen? ⟨b, 10, none⟩ = false
theorem PS.lt {b : Nat} {v1 v2 v3 v4 v7 v10 : Value} {W : World} (h : PS b v1 v2 v3 v4 v7 v10 W) : b < W.heap.size := World.block_lt_of_cell? W _ h.1
theorem PS.below {b : Nat} {v1 v2 v3 v4 v7 v10 : Value} {W W' : World} (h : PS b v1 v2 v3 v4 v7 v10 W) (hb : Below W.heap.size W W') : PS b v1 v2 v3 v4 v7 v10 W' := by
  have hl := h.lt
  obtain ⟨a1, a2, a3, a4, a5, a6, f1, f2, f3, f4, f5⟩ := h
  exact ⟨cell_later hb a1, cell_later hb a2, cell_later hb a3, cell_later hb a4, cell_later hb a5, cell_later hb a6, (hb.frozen (p := ⟨b, 2, none⟩) hl).trans f1, (hb.frozen (p := ⟨b, 3, none⟩) hl).trans f2, (hb.frozen (p := ⟨b, 4, none⟩) hl).trans f3, (hb.frozen (p := ⟨b, 7, none⟩) hl).trans f4, (hb.frozen (p := ⟨b, 10, none⟩) hl).trans f5⟩
theorem bal {w W : World} (h : Below w.heap.size w W) (o : Obj) : Below w.heap.size w (W.alloc o) := h.alloc h.size o
/-- what the first error leaves -/
def Hit (b nb : Nat) (v1 ev : Value) (w : World) (e : Ending) (w' : World) : Prop :=
  e = .returned (.tuple #[]) ∧ PS b v1 (.int .u64 ((nb : Int) + 1)) (.int .i32 1114112) (.int .i64 1) (.iface 44 ev) (.int .u32 1) w' ∧ ∀ B, B ≤ b → B ≤ w.heap.size → Below B w w'
set_option maxRecDepth 100000 in
set_option maxHeartbeats 2000000 in
theorem errPass_first (b nb c : Nat) (A : Option Addr) (v2 v3 v4 v10 : Value) (s t : ByteArray) (o lc : Int) (inc : Bool) (w : World) (h : PS b (.slice A nb c) v2 v3 v4 .nilIface v10 w) (hn : nb ≤ 1048576) :
    Calls Try.prog 27 #[.pointer (some ⟨b, 0, none⟩), .iface 44 (peV s o lc t inc)] w (Hit b nb (.slice A nb c) (peV s o lc t inc) w) := by
  obtain ⟨a1, a2, a3, a4, a5, a6, f1, f2, f3, f4, f5⟩ := h
  go_enter Try.func27, Try.ntmps27
  go_wp2
  go_end0
  exact ⟨rfl, ⟨by go_simp, by go_simp, by go_simp, by go_simp, by go_simp, by go_simp, by go_simp, by go_simp, by go_simp, by go_simp, by go_simp⟩, fun B hB _ => (((((Below.refl B w).setCell hB _).setCell hB _).setCell hB _).setCell hB _).setCell hB _⟩
set_option maxHeartbeats 1000000 in
theorem errPass_next (b : Nat) (v1 v2 v3 v4 ev v10 x : Value) (w : World) (h : PS b v1 v2 v3 v4 (.iface 44 ev) v10 w) :
    Calls Try.prog 27 #[.pointer (some ⟨b, 0, none⟩), x] w fun e w' => e = .returned (.tuple #[]) ∧ w = w' := by
  obtain ⟨-, -, -, -, a5, -⟩ := h
  go_enter Try.func27, Try.ntmps27
  go_wp2
  go_end0
  exact ⟨rfl, rfl⟩
set_option maxHeartbeats 1000000 in
theorem zerr_first (b nb c : Nat) (A : Option Addr) (v2 v3 v4 v10 : Value) (s t : ByteArray) (o lc : Int) (inc : Bool) (w : World) (h : PS b (.slice A nb c) v2 v3 v4 .nilIface v10 w) (hn : nb ≤ 1048576) :
    Calls Try.prog 16 #[.pointer (some ⟨b, 0, none⟩), peV s o lc t inc] w (Hit b nb (.slice A nb c) (peV s o lc t inc) w) := by
  have H := Lib.hid h
  clear h
  go_enter Try.func16, Try.ntmps16
  go_wp2_with (first
    | (go_at_call 27; refine (errPass_first b nb c A v2 v3 v4 v10 s t o lc inc _ (H.out.below ((Below.refl _ _).alloc (Nat.le_refl _) _)) hn).mono ?_; rintro e w' ⟨rfl, hq⟩
       have HQ := Lib.hid hq; clear hq))
  go_end0
  exact ⟨rfl, HQ.out.1, fun B hB hw => ((Below.refl B w).alloc hw _).trans (HQ.out.2 B hB (Nat.le_trans hw (by simp)))⟩
set_option maxHeartbeats 1000000 in
theorem zerr_next (b : Nat) (v1 v2 v3 v4 ev v10 : Value) (s t : ByteArray) (o lc : Int) (inc : Bool) (w : World) (h : PS b v1 v2 v3 v4 (.iface 44 ev) v10 w) :
    Calls Try.prog 16 #[.pointer (some ⟨b, 0, none⟩), peV s o lc t inc] w fun e w' => e = .returned (.tuple #[]) ∧ Below w.heap.size w w' := by
  have H := Lib.hid h
  clear h
  go_enter Try.func16, Try.ntmps16
  go_wp2_with (first
    | (go_at_call 27; refine (errPass_next b v1 v2 v3 v4 ev v10 _ _ (H.out.below ((Below.refl _ _).alloc (Nat.le_refl _) _))).mono ?_; rintro e w' ⟨rfl, rfl⟩))
  go_end0
  exact ⟨rfl, (Below.refl _ _).alloc (Nat.le_refl _) _⟩
theorem built_new : (Try.prog.built 73 [(19, .int .i64 1)]).map (fun C => (C.size, C[2]?, C[3]?, C[4]?, C[7]?)) = some (2088, some (.int .u64 0), some (.int .i32 0), some (.int .i64 0), some .nilIface) := by kernel_rfl
/-- a new parser: its block, known by what matters here -/
def NewP (w : World) (e : Ending) (w' : World) : Prop := e = .returned (.pointer (some ⟨w.heap.size, 0, none⟩)) ∧ Below w.heap.size w w' ∧ w.heap.size < w'.heap.size ∧
  (∀ i, i < 2088 → ∃ v, w'.cell? ⟨w.heap.size, i, none⟩ = some v) ∧ (∀ i, w'.frozen? ⟨w.heap.size, i, none⟩ = false) ∧
  w'.cell? ⟨w.heap.size, 2, none⟩ = some (.int .u64 0) ∧ w'.cell? ⟨w.heap.size, 3, none⟩ = some (.int .i32 0) ∧ w'.cell? ⟨w.heap.size, 4, none⟩ = some (.int .i64 0) ∧ w'.cell? ⟨w.heap.size, 7, none⟩ = some .nilIface
set_option maxRecDepth 100000 in
set_option maxHeartbeats 1000000 in
theorem newParser_any (w : World) : Calls Try.prog 26 #[.slice none 0 0] w (NewP w) := by
  obtain ⟨C, hC, h⟩ := Option.map_eq_some_iff.1 built_new
  simp only [Prod.mk.injEq] at h
  have HC := Lib.hid hC
  have HS := Lib.hid h
  clear hC h
  go_enter Try.func26, Try.ntmps26
  go_wp2_with ((with_reducible refine wpList_buildTo rfl 73 _ rfl _ rfl C ?_ ?_); (focus (simp; exact HC.out)))
  go_loop [10] (fun vi => vi = .int .i64 0) (fun _ => 0)
  case atStart => rfl
  case round =>
    obtain rfl := hrel
    go_wp2
    go_ret
    obtain ⟨s0, s1, s2, s3, s4⟩ := HS.out
    refine ⟨rfl, (Below.refl _ _).alloc (Nat.le_refl _) _, by simp, fun i hi => ⟨C[i]'(by omega), by simp⟩, fun i => by simp, by simpa using s1, by simpa using s2, by simpa using s3, by simpa using s4⟩
/-- what ZZnewParser leaves -/
def NewE (tok : Int) (A : Option Addr) (nb c : Nat) (w : World) (e : Ending) (w' : World) : Prop := ∃ b, e = .returned (.pointer (some ⟨b, 0, none⟩)) ∧ w.heap.size ≤ b ∧ PS b (.slice A nb c) (.int .u64 0) (.int .i32 0) (.int .i64 0) .nilIface (.int .u32 tok) w' ∧ Below w.heap.size w w'
set_option maxRecDepth 100000 in
set_option maxHeartbeats 4000000 in
theorem znew_any (s : ByteArray) (tok o lc : Int) (A : Option Addr) (nb c : Nat) (w : World) :
    Calls Try.prog 14 #[.string s, .int .u32 tok, posW o lc, .int .i64 0, .slice none 0 0, .slice A nb c, .int .i64 0, .int .i64 0] w (NewE tok A nb c w) := by
  go_enter Try.func14, Try.ntmps14
  go_wp2_with (first
    | (go_at_call 26; refine (newParser_any _).mono ?_; rintro e w1 ⟨rfl, hb1, hz1, hsome, hfz, d2, d3, d4, d7⟩
       have p0 : w1.cell? ⟨w.heap.size, 0, none⟩ = some (.int .u32 o) := cell_later hb1 (by go_simp)
       have p1 : w1.cell? ⟨w.heap.size, 1, none⟩ = some (.int .u32 lc) := cell_later hb1 (by go_simp)
       have HB1 := Lib.hid hb1
       have HSO := Lib.hid hsome
       clear hb1 hsome
       simp only [World.size_alloc] at HSO hz1 hfz d2 d3 d4 d7
       have hz0 : w.heap.size < w1.heap.size := by omega
       obtain ⟨u5, d5⟩ := HSO.out 5 (by omega)
       obtain ⟨u10, d10⟩ := HSO.out 10 (by omega)
       obtain ⟨u15, d15⟩ := HSO.out 15 (by omega)
       obtain ⟨u16, d16⟩ := HSO.out 16 (by omega)
       obtain ⟨u29, d29⟩ := HSO.out 29 (by omega)
       obtain ⟨u87, d87⟩ := HSO.out 2087 (by omega)
       obtain ⟨u1, d1⟩ := HSO.out 1 (by omega)
       obtain ⟨u22, d22⟩ := HSO.out 22 (by omega)
       obtain ⟨u23, d23⟩ := HSO.out 23 (by omega)))
  go_ret
  have t1 : Below w.heap.size w w1 := ((Below.refl _ _).alloc (Nat.le_refl _) _).trans (HB1.out.mono (by simp))
  have hle : w.heap.size ≤ w.heap.size + 1 := by omega
  refine ⟨w.heap.size + 1, rfl, hle, ⟨?_, ?_, ?_, ?_, ?_, ?_, ?_, ?_, ?_, ?_, ?_⟩, ?_⟩
  all_goals try go_simp
  exact (((((((((t1.setCell (p := ⟨w.heap.size + 1, 5, none⟩) hle _).setCell (p := ⟨w.heap.size + 1, 10, none⟩) hle _).setCell (p := ⟨w.heap.size + 1, 15, none⟩) hle _).setCell (p := ⟨w.heap.size + 1, 16, none⟩) hle _).setCell (p := ⟨w.heap.size + 1, 29, none⟩) hle _).setCell (p := ⟨w.heap.size + 1, 2087, none⟩) hle _).setCell (p := ⟨w.heap.size + 1, 1, none⟩) hle _).setCell (p := ⟨w.heap.size + 1, 22, none⟩) hle _).setCell (p := ⟨w.heap.size + 1, 23, none⟩) hle _).alloc (by simp [World.setCell]; omega) _
theorem ztok (b : Nat) (v1 v2 v3 v4 v7 : Value) (x : Int) (w : World) (h : PS b v1 v2 v3 v4 v7 (.int .u32 x) w) :
    Calls Try.prog 18 #[.pointer (some ⟨b, 0, none⟩)] w fun e w' => e = .returned (.int .u32 x) ∧ w = w' := by
  obtain ⟨a1, a2, a3, a4, a5, a6, -⟩ := h
  go_enter Try.func18, Try.ntmps18
  go_wp2
  go_ret
  exact ⟨rfl, rfl⟩
theorem zrune (b : Nat) (v1 v2 v4 v7 v10 : Value) (x : Int) (w : World) (h : PS b v1 v2 (.int .i32 x) v4 v7 v10 w) :
    Calls Try.prog 30 #[.pointer (some ⟨b, 0, none⟩)] w fun e w' => e = .returned (.int .i32 x) ∧ w = w' := by
  obtain ⟨a1, a2, a3, a4, a5, a6, -⟩ := h
  go_enter Try.func30, Try.ntmps30
  go_wp2
  go_ret
  exact ⟨rfl, rfl⟩
theorem zwidth (b : Nat) (v1 v2 v3 v7 v10 : Value) (x : Int) (w : World) (h : PS b v1 v2 v3 (.int .i64 x) v7 v10 w) :
    Calls Try.prog 32 #[.pointer (some ⟨b, 0, none⟩)] w fun e w' => e = .returned (.int .i64 x) ∧ w = w' := by
  obtain ⟨a1, a2, a3, a4, a5, a6, -⟩ := h
  go_enter Try.func32, Try.ntmps32
  go_wp2
  go_ret
  exact ⟨rfl, rfl⟩
theorem zbsp (b : Nat) (v1 v3 v4 v7 v10 : Value) (x : Int) (w : World) (h : PS b v1 (.int .u64 x) v3 v4 v7 v10 w) :
    Calls Try.prog 33 #[.pointer (some ⟨b, 0, none⟩)] w fun e w' => e = .returned (.int .u64 x) ∧ w = w' := by
  obtain ⟨a1, a2, a3, a4, a5, a6, -⟩ := h
  go_enter Try.func33, Try.ntmps33
  go_wp2
  go_ret
  exact ⟨rfl, rfl⟩
set_option maxHeartbeats 2000000 in
theorem atEOF_yes (b nb : Nat) (v1 v7 : Value) (w : World) (h : PS b v1 (.int .u64 ((nb : Int) + 1)) (.int .i32 1114112) (.int .i64 1) v7 (.int .u32 1) w) (hn : nb ≤ 1048576) :
    Calls Try.prog 20 #[.pointer (some ⟨b, 0, none⟩), .int .i64 nb] w fun e w' => e = .returned (.bool true) ∧ w = w' := by
  have H := Lib.hid h
  clear h
  go_enter Try.func20, Try.ntmps20
  go_wp2_with (first
    | (go_at_call 18; refine (ztok b _ _ _ _ _ 1 _ H.out).mono ?_; rintro e w' ⟨rfl, rfl⟩)
    | (go_at_call 30; refine (zrune b _ _ _ _ _ 1114112 _ H.out).mono ?_; rintro e w' ⟨rfl, rfl⟩)
    | (go_at_call 32; refine (zwidth b _ _ _ _ _ 1 _ H.out).mono ?_; rintro e w' ⟨rfl, rfl⟩)
    | (go_at_call 33; refine (zbsp b _ _ _ _ _ _ _ H.out).mono ?_; rintro e w' ⟨rfl, rfl⟩)
    | (go_at_call 29; go_in)
    | (go_at_call 31; go_in))
  go_ret
  exact ⟨by first | rfl | simp, rfl⟩
set_option maxRecDepth 100000 in
set_option maxHeartbeats 2000000 in
theorem fields_nil (b : Nat) (v1 v2 v3 v4 v10 : Value) (w : World) (h : PS b v1 v2 v3 v4 .nilIface v10 w) :
    Calls Try.prog 28 #[.pointer (some ⟨b, 0, none⟩)] w fun e w' => e = .returned (.tuple #[.int .i64 0, .string ⟨#[]⟩, posW 0 0, .string ⟨#[]⟩, .bool false]) ∧ Below w.heap.size w w' := by
  have hz := h.lt
  obtain ⟨-, -, -, -, a5, -⟩ := h
  go_enter Try.func28, Try.ntmps28
  go_wp2
  exact bodyPost_ret (v := .tuple #[.int .i64 0, .string ⟨#[]⟩, posW 0 0, .string ⟨#[]⟩, .bool false]) (by simp [results, Try.results28, go_sem]) rfl ⟨rfl, (Below.refl _ _).alloc (Nat.le_refl _) _⟩
theorem assert_pe (s t : ByteArray) (o lc : Int) (inc : Bool) (w : World) : (Instr.typeAssert (.iface 44 (peV s o lc t inc)) 62 44 true).run Try.prog w = .ok (.tuple #[peV s o lc t inc, .bool true]) w := by kernel_rfl
set_option maxRecDepth 100000 in
set_option maxHeartbeats 2000000 in
theorem fields_some (b : Nat) (v1 v2 v3 v4 v10 : Value) (s t : ByteArray) (o lc : Int) (inc : Bool) (w : World) (h : PS b v1 v2 v3 v4 (.iface 44 (peV s o lc t inc)) v10 w) :
    Calls Try.prog 28 #[.pointer (some ⟨b, 0, none⟩)] w fun e w' => e = .returned (.tuple #[.int .i64 1, .string s, posW o lc, .string t, .bool inc]) ∧ Below w.heap.size w w' := by
  have hz := h.lt
  have hz1 : b < w.heap.size + 1 := by omega
  obtain ⟨-, -, -, -, a5, -⟩ := h
  have ta := assert_pe s t o lc inc
  go_enter Try.func28, Try.ntmps28
  go_wp2
  go_region
  all_goals
    go_wp2
    exact bodyPost_ret (v := .tuple #[.int .i64 1, .string s, posW o lc, .string t, .bool inc]) (by simp [results, Try.results28, go_sem]) rfl ⟨rfl, by repeat (first | with_reducible exact Below.refl _ _ | apply Below.drew | apply bal)⟩
set_option maxRecDepth 100000 in
set_option maxHeartbeats 2000000 in
theorem noErr_yes (b : Nat) (v1 v2 v3 v4 v10 : Value) (w : World) (h : PS b v1 v2 v3 v4 .nilIface v10 w) :
    Calls Try.prog 17 #[.pointer (some ⟨b, 0, none⟩)] w fun e w' => e = .returned (.bool true) ∧ Below w.heap.size w w' := by
  have H := Lib.hid h
  clear h
  go_enter Try.func17, Try.ntmps17
  go_wp2_with (first
    | (go_at_call 28; refine (fields_nil b v1 v2 v3 v4 v10 _ H.out).mono ?_; rintro e w' ⟨rfl, hq⟩; have HQ := Lib.hid hq; clear hq))
  go_ret
  exact ⟨rfl, HQ.out.alloc HQ.out.size _⟩
set_option maxRecDepth 100000 in
set_option maxHeartbeats 4000000 in
theorem errIs_yes (b : Nat) (v1 v2 v3 v4 v10 : Value) (s t : ByteArray) (o lc : Int) (inc : Bool) (w : World) (h : PS b v1 v2 v3 v4 (.iface 44 (peV s o lc t inc)) v10 w) :
    Calls Try.prog 19 #[.pointer (some ⟨b, 0, none⟩), peV s o lc t inc] w fun e w' => e = .returned (.bool true) ∧ Below w.heap.size w w' := by
  have H := Lib.hid h
  clear h
  go_enter Try.func19, Try.ntmps19
  go_wp2_with (first
    | (go_at_call 28; refine (fields_some b v1 v2 v3 v4 v10 s t o lc inc _ (H.out.below ((Below.refl _ _).alloc (Nat.le_refl _) _))).mono ?_; rintro e w1 ⟨rfl, hq⟩
       have q0 : w1.cell? ⟨w.heap.size, 0, none⟩ = some (.string s) := cell_later hq (by go_simp)
       have q1 : w1.cell? ⟨w.heap.size, 1, none⟩ = some (.int .u32 o) := cell_later hq (by go_simp)
       have q2 : w1.cell? ⟨w.heap.size, 2, none⟩ = some (.int .u32 lc) := cell_later hq (by go_simp)
       have q3 : w1.cell? ⟨w.heap.size, 3, none⟩ = some (.string t) := cell_later hq (by go_simp)
       have q4 : w1.cell? ⟨w.heap.size, 4, none⟩ = some (.bool inc) := cell_later hq (by go_simp)
       have hz : w.heap.size < w1.heap.size := by have := hq.size; simp at this; omega
       have HQ := Lib.hid hq; clear hq))
  go_ret
  have t1 : Below w.heap.size w w1 := ((Below.refl _ _).alloc (Nat.le_refl _) _).trans (HQ.out.mono (by simp))
  exact ⟨by first | rfl | simp, t1.alloc t1.size _⟩
end EP
end Go.Proofs.Ytefgeoadfjghaaa
