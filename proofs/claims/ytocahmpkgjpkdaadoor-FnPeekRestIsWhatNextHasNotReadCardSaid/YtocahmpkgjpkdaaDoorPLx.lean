/- The contracts of the lexer's functions: new, peekRest, next, peekNext. Conditions: the lexer's two cells; the place does not lie behind the end; the decoder's tables. -/
import Derived.Test.YtocahmpkgjpkdaaDoorPPlain
import Derived.Test.YtocahmpkgjpkdaaDoorSlices
import Derived.Test.YtocahmpkgjpkdaaDoorShelf
import Derived.WalkKit
import Derived.WalkSpells
import Derived.WalkLawsBesides
import Derived.Lib.Hide
import Derived.OwnWalk
import Derived.Below
import Derived.Shelf.Strings.MapAny
import Derived.Shelf.Unicode.DecodeLastEight
import Derived.Deep.RegionHeld3
import Derived.Deep.QuietTactic
import Derived.BigQuiet
namespace Go.Proofs.YtocahmpkgjpkdaaDoor
open Go.RowKit
namespace PK

/-- block b is a lexer of s at place i -/
def Lx (b : Nat) (s : ByteArray) (i : Nat) (w : World) : Prop := w.cell? ⟨b, 0, none⟩ = some (.string s) ∧ w.cell? ⟨b, 1, none⟩ = some (.int .i64 i) ∧ w.frozen? ⟨b, 1, none⟩ = false ∧ b < w.heap.size
theorem Lx.below {b : Nat} {s : ByteArray} {i : Nat} {w w' : World} (h : Lx b s i w) (hb : Below w.heap.size w w') : Lx b s i w' :=
  ⟨cell_later hb h.1, cell_later hb h.2.1, (hb.frozen (p := ⟨b, 1, none⟩) h.2.2.2).trans h.2.2.1, Nat.lt_of_lt_of_le h.2.2.2 hb.size⟩
theorem grown_of {w w' : World} (b : Nat) (hb : Below w.heap.size w w') : w.grownBy w' (some b) := ⟨hb.os, hb.tape, hb.output, hb.size, fun k hk _ => hb.block k hk⟩
theorem grown_set (w : World) (b i : Nat) (v : Value) : w.grownBy (w.setCell ⟨b, i, none⟩ v) (some b) :=
  ⟨rfl, rfl, rfl, by simp [World.setCell], fun k _ hk => Below.heap_setCell _ _ _ _ (fun e => hk (by simp [e]))⟩
set_option maxRecDepth 100000 in
theorem new_any (s : ByteArray) (w : World) :
    Calls Tryd.prog 7 #[.string s] w fun e w' => e = .returned (.pointer (some ⟨w.heap.size, 0, none⟩)) ∧ Lx w.heap.size s 0 w' ∧ w'.heap.size = w.heap.size + 1 ∧ Below w.heap.size w w' := by
  go_enter Tryd.func7, Tryd.ntmps7
  go_wp2
  go_ret
  exact ⟨rfl, ⟨by simp, by simp, by simp, by simp⟩, by simp, (Below.refl _ _).alloc (Nat.le_refl _) _⟩
set_option maxRecDepth 100000 in
set_option maxHeartbeats 2000000 in
theorem rest_in (b : Nat) (s : ByteArray) (i : Nat) (w : World) (h : Lx b s i w) (hi : i ≤ s.size) (hs : s.size ≤ 1048576) :
    Calls Tryd.prog 12 #[.pointer (some ⟨b, 0, none⟩)] w fun e w' => e = .returned (.string (s.extract i s.size)) ∧ Below w.heap.size w w' := by
  obtain ⟨c0, c1, c2, c3⟩ := h
  have i0 : (0 : Int) ≤ (i : Int) := by omega
  have i1 : (i : Int) ≤ (s.size : Int) := by omega
  go_enter Tryd.func12, Tryd.ntmps12
  go_wp2
  go_quiet (fail)
  go_wp2
  go_ret
  exact ⟨rfl, by repeat (first | exact Below.refl _ _ | apply Below.drew | apply below_drewN)⟩
theorem rest_any (b : Nat) (s : ByteArray) (i : Nat) (w : World) (h : Lx b s i w) (hi : i ≤ s.size) (hs : s.size ≤ 1048576) :
    Calls Tryd.prog 8 #[.pointer (some ⟨b, 0, none⟩)] w fun e w' => e = .returned (.string (s.extract i s.size)) ∧ Below w.heap.size w w' := by
  have H := Lib.hid (rest_in b s i w h hi hs)
  clear h
  go_enter Tryd.func8, Tryd.ntmps8
  go_wp2_with (go_at_call 12; refine H.out.mono ?_; rintro e w1 ⟨rfl, hb1⟩; have HB := Lib.hid hb1; clear hb1)
  go_ret
  exact ⟨rfl, HB.out⟩
set_option maxRecDepth 100000 in
set_option maxHeartbeats 4000000 in
theorem peek_in (b : Nat) (s : ByteArray) (i : Nat) (w : World) (h : Lx b s i w) (hi : i < s.size) (hs : s.size ≤ 1048576) (hT : Lib.Utf8Tabs 0 1 w) :
    Calls Tryd.prog 14 #[.pointer (some ⟨b, 0, none⟩)] w fun e w' => e = .returned (.int .i32 (Utf8.decode s i).1) ∧ Below w.heap.size w w' := by
  obtain ⟨c0, c1, c2, c3⟩ := h
  have HT := Lib.hid hT
  clear hT
  have i0 : (0 : Int) ≤ (i : Int) := by omega
  have i1 : (i : Int) ≤ (s.size : Int) := by omega
  have i2 : ¬ (s.size : Int) ≤ (i : Int) := by omega
  have hd := Lib.decodeGo_extract s i hi
  have HS := Lib.hid (fun (W : World) (hb : Below w.heap.size w W) => And.intro (cell_later hb c0) (And.intro (cell_later hb c1) hb))
  go_enter Tryd.func14, Tryd.ntmps14
  go_wp2
  go_quiet (fail)
  go_wp2
  go_region_held3 (fun W => W.cell? ⟨b, 0, none⟩ = some (.string s) ∧ W.cell? ⟨b, 1, none⟩ = some (.int .i64 i) ∧ Below w.heap.size w W)
    (first | exact HS.out _ (below_drewN (Below.refl _ _) _).drew | exact HS.out _ (Below.refl _ _).drew | exact HS.out _ ‹Below w.heap.size w _›)
    (first
      | (go_at_call 15; go_split_ands; refine (Tryd.utf8_DecodeRuneInString (s.extract i s.size) _ (Utf8Tabs_below HT.out ‹Below w.heap.size w _›)).mono ?_; rw [hd]; rintro e w1 ⟨rfl, hb1⟩; have hbt : Below w.heap.size w w1 := Below.trans ‹Below w.heap.size w _› (hb1.mono (Below.size ‹Below w.heap.size w _›)); clear hb1))
  go_wp2
  go_ret
  exact ⟨rfl, ‹Below w.heap.size w _›⟩
theorem peek_any (b : Nat) (s : ByteArray) (i : Nat) (w : World) (h : Lx b s i w) (hi : i < s.size) (hs : s.size ≤ 1048576) (hT : Lib.Utf8Tabs 0 1 w) :
    Calls Tryd.prog 10 #[.pointer (some ⟨b, 0, none⟩)] w fun e w' => e = .returned (.int .i32 (Utf8.decode s i).1) ∧ Below w.heap.size w w' := by
  have H := Lib.hid (peek_in b s i w h hi hs hT)
  clear h hT
  go_enter Tryd.func10, Tryd.ntmps10
  go_wp2_with (go_at_call 14; refine H.out.mono ?_; rintro e w1 ⟨rfl, hb1⟩; have HB := Lib.hid hb1; clear hb1)
  go_ret
  exact ⟨rfl, HB.out⟩
theorem width_le4 (s : ByteArray) (i : Nat) (h : i < s.size) : (Utf8.decode s i).2 ≤ 4 := by
  rw [← Lib.decodeGo_extract s i h]; exact Lib.decodeGo_le4 _
/-- what next leaves -/
def Nexted (b : Nat) (s : ByteArray) (i : Nat) (w : World) (e : Ending) (w' : World) : Prop := e = .returned (.int .i32 (Utf8.decode s i).1) ∧ Lx b s (i + (Utf8.decode s i).2) w' ∧ w.grownBy w' (some b)
set_option maxRecDepth 100000 in
set_option maxHeartbeats 4000000 in
theorem next_in (b : Nat) (s : ByteArray) (i : Nat) (w : World) (h : Lx b s i w) (hi : i < s.size) (hs : s.size ≤ 1048576) (hT : Lib.Utf8Tabs 0 1 w) :
    Calls Tryd.prog 13 #[.pointer (some ⟨b, 0, none⟩)] w (Nexted b s i w) := by
  obtain ⟨c0, c1, c2, c3⟩ := h
  have HT := Lib.hid hT
  clear hT
  have i0 : (0 : Int) ≤ (i : Int) := by omega
  have i1 : (i : Int) ≤ (s.size : Int) := by omega
  have i2 : ¬ (s.size : Int) ≤ (i : Int) := by omega
  have hd := Lib.decodeGo_extract s i hi
  have HS := Lib.hid (fun (W : World) (hb : Below w.heap.size w W) => And.intro (cell_later hb c0) (And.intro (cell_later hb c1) hb))
  go_enter Tryd.func13, Tryd.ntmps13
  go_wp2
  go_quiet (fail)
  go_wp2
  go_region_held3 (fun W => W.cell? ⟨b, 0, none⟩ = some (.string s) ∧ W.cell? ⟨b, 1, none⟩ = some (.int .i64 i) ∧ Below w.heap.size w W)
    (first | exact HS.out _ (below_drewN (Below.refl _ _) _).drew | exact HS.out _ (Below.refl _ _).drew | exact HS.out _ ‹Below w.heap.size w _›)
    (first
      | (go_at_call 15; go_split_ands; refine (Tryd.utf8_DecodeRuneInString (s.extract i s.size) _ (Utf8Tabs_below HT.out ‹Below w.heap.size w _›)).mono ?_; rw [hd]; rintro e w1 ⟨rfl, hb1⟩; have hbt : Below w.heap.size w w1 := Below.trans ‹Below w.heap.size w _› (hb1.mono (Below.size ‹Below w.heap.size w _›)); have d0 : w1.cell? ⟨b, 0, none⟩ = some (.string s) := cell_later hbt c0; have d1 : w1.cell? ⟨b, 1, none⟩ = some (.int .i64 i) := cell_later hbt c1; have d2 : w1.frozen? ⟨b, 1, none⟩ = false := (hbt.frozen (p := ⟨b, 1, none⟩) c3).trans c2; have d3 : b < w1.heap.size := Nat.lt_of_lt_of_le c3 hbt.size; clear hb1))
  have hw4 := width_le4 s i hi
  have HBT := Lib.hid (grown_of b ‹Below w.heap.size w _›)
  go_wp2
  go_ret
  exact ⟨rfl, ⟨by go_simp, by go_simp, by simp [d2], by simp [d3]⟩, HBT.out.trans (grown_set _ _ _ _)⟩
theorem next_any (b : Nat) (s : ByteArray) (i : Nat) (w : World) (h : Lx b s i w) (hi : i < s.size) (hs : s.size ≤ 1048576) (hT : Lib.Utf8Tabs 0 1 w) :
    Calls Tryd.prog 9 #[.pointer (some ⟨b, 0, none⟩)] w (Nexted b s i w) := by
  have H := Lib.hid (next_in b s i w h hi hs hT)
  clear h hT
  go_enter Tryd.func9, Tryd.ntmps9
  go_wp2_with (go_at_call 13; refine H.out.mono ?_; rintro e w1 ⟨rfl, hb1⟩; have HB := Lib.hid hb1; clear hb1)
  go_ret
  exact ⟨rfl, HB.out⟩
set_option maxRecDepth 100000 in
theorem end_in (b : Nat) (s : ByteArray) (w : World) (h : Lx b s s.size w) (hs : s.size ≤ 1048576) :
    Calls Tryd.prog 13 #[.pointer (some ⟨b, 0, none⟩)] w fun e w' => e = .returned (.int .i32 0) ∧ Below w.heap.size w w' := by
  obtain ⟨c0, c1, c2, c3⟩ := h
  go_enter Tryd.func13, Tryd.ntmps13
  go_wp2
  go_quiet (fail)
  go_wp2
  go_ret
  exact ⟨rfl, by repeat (first | exact Below.refl _ _ | apply Below.drew | apply below_drewN)⟩
theorem end_any (b : Nat) (s : ByteArray) (w : World) (h : Lx b s s.size w) (hs : s.size ≤ 1048576) :
    Calls Tryd.prog 9 #[.pointer (some ⟨b, 0, none⟩)] w fun e w' => e = .returned (.int .i32 0) ∧ Below w.heap.size w w' := by
  have H := Lib.hid (end_in b s w h hs)
  clear h
  go_enter Tryd.func9, Tryd.ntmps9
  go_wp2_with (go_at_call 13; refine H.out.mono ?_; rintro e w1 ⟨rfl, hb1⟩; have HB := Lib.hid hb1; clear hb1)
  go_ret
  exact ⟨rfl, HB.out⟩
end PK
end Go.Proofs.YtocahmpkgjpkdaaDoor
