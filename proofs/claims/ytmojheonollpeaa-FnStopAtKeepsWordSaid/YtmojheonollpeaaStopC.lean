/- The contracts of StopAt's closure, NewParser with that one option, and the readers of the parser's settings. Conditions: the cells that each contract names. -/
import Derived.Test.YtmojheonollpeaaStopB
import Derived.Laws.EntriesVeiled
import Derived.RegionTactic
import Derived.BigRegion
import Derived.RangeFuncRecord
namespace Go.Proofs.Ytmojheonollpeaa
open Go.RowKit
namespace SA

theorem oth {wr : World} {p i b j : Nat} {v x : Value} (hne : p ≠ b) (h : wr.cell? ⟨b, j, none⟩ = some x) : (wr.setCell ⟨p, i, none⟩ v).cell? ⟨b, j, none⟩ = some x := by
  rw [World.cell?_setCell_other wr _ _ _ (fun e => hne (by simpa using congrArg Addr.block e))]; exact h
theorem oth' {wr : World} {p i j : Nat} {v x : Value} (hne : i ≠ j) (h : wr.cell? ⟨p, j, none⟩ = some x) : (wr.setCell ⟨p, i, none⟩ v).cell? ⟨p, j, none⟩ = some x := by
  rw [World.cell?_setCell_other wr _ _ _ (fun e => hne (by simpa using congrArg Addr.off e))]; exact h
/-- the parser in block p by the settings that are read -/
def PAt (p : Nat) (st : Value) (W : World) : Prop :=
  W.cell? ⟨p, 19, none⟩ = some (.bool false) ∧ W.cell? ⟨p, 20, none⟩ = some (.int .i64 1) ∧ W.cell? ⟨p, 21, none⟩ = some st ∧ W.cell? ⟨p, 23, none⟩ = some (.int .i64 0) ∧ W.frozen? ⟨p, 21, none⟩ = false
theorem PAt.lt {p : Nat} {st : Value} {W : World} (h : PAt p st W) : p < W.heap.size := World.block_lt_of_cell? W _ h.1
theorem PAt.below {p : Nat} {st : Value} {W W' : World} (h : PAt p st W) (hb : Below W.heap.size W W') : PAt p st W' :=
  ⟨cell_later hb h.1, cell_later hb h.2.1, cell_later hb h.2.2.1, cell_later hb h.2.2.2.1, (hb.frozen (p := ⟨p, 21, none⟩) h.lt).trans h.2.2.2.2⟩
/-- the slice value st holds the bytes of s -/
def Holds (s : ByteArray) (st : Value) (W : World) : Prop := ∃ (g c : Nat), st = .slice (some ⟨g, 0, none⟩) s.size c ∧ ∀ i (h : i < s.size), W.cell? ⟨g, i, none⟩ = some (.int .u8 ((s[i]'h).toNat : Int))
theorem Holds.below {s : ByteArray} {st : Value} {W W' : World} (h : Holds s st W) (hb : Below W.heap.size W W') : Holds s st W' := by
  obtain ⟨g, c, rfl, hc⟩ := h
  exact ⟨g, c, rfl, fun i hi => cell_later hb (hc i hi)⟩
/-- what the closure leaves -/
def Stopped (s : ByteArray) (p : Nat) (w : World) (e : Ending) (w' : World) : Prop := e = .returned (.tuple #[]) ∧ ∃ st, Holds s st w' ∧ PAt p st w' ∧ ∀ B, B ≤ p → B ≤ w.heap.size → Below B w w'
theorem bytes_cell (s : ByteArray) (cap i : Nat) (h : i < s.size) : (bytesRow s cap)[i]? = some (.int .u8 ((s[i]'h).toNat : Int)) := by
  unfold bytesRow
  rw [Array.getElem?_append_left (by simpa using h), Array.getElem?_map]
  have h' : i < s.data.size := h
  rw [Array.getElem?_eq_getElem h']
  rfl
set_option maxHeartbeats 1000000 in
theorem doStop (s : ByteArray) (p c : Nat) (old : Value) (w : World) (hc : w.cell? ⟨c, 0, none⟩ = some (.string s)) (hp : PAt p old w) :
    Calls Try.prog 34 #[.pointer (some ⟨p, 0, none⟩), .pointer (some ⟨c, 0, none⟩)] w (Stopped s p w) := by
  have hcv := fun (w : World) => run_bytes_of_string (P := Try.prog) w 9 43 5 s Try.underlying9 Try.underlying43 Try.underlying5
  have hlt := hp.lt
  obtain ⟨h19, h20, h21, h23, hf⟩ := hp
  go_enter Try.func34, Try.ntmps34
  go_wp2
  go_end0
  have hco := bytes_cell s (grownCap w s.size 0 5)
  generalize bytesRow s (grownCap w s.size 0 5) = C at *
  refine ⟨rfl, .slice (some ⟨w.heap.size, 0, none⟩) s.size (grownCap w s.size 0 5), ⟨_, _, rfl, fun i hi => ?_⟩, ⟨?_, ?_, ?_, ?_, ?_⟩, fun B hB hw => ?_⟩
  · have hh := World.alloc_heap_new (w.setCell ⟨p, 21, none⟩ (.slice (some ⟨w.heap.size, 0, none⟩) s.size (grownCap w s.size 0 5))) (.cells C 5 (C.size, C.size + 1))
    have hz : (w.setCell ⟨p, 21, none⟩ (.slice (some ⟨w.heap.size, 0, none⟩) s.size (grownCap w s.size 0 5))).heap.size = w.heap.size := by simp
    rw [hz] at hh
    go_simp
    unfold World.cell?
    rw [hh]
    simpa using hco i hi
  · go_simp
  · go_simp
  · go_simp
  · go_simp
  · go_simp
  · exact (((Below.refl B w).setCell (p := ⟨p, 21, none⟩) hB _).alloc (by simpa using hw) _).drew
theorem built_new : (Try.prog.built 71 [(19, .int .i64 1)]).map (fun C => (C.size, C[19]?, C[20]?, C[21]?, C[23]?)) = some (2088, some (.bool false), some (.int .i64 1), some (.slice none 0 0), some (.int .i64 0)) := by kernel_rfl
/-- the loop over the one option: what stands before and behind it -/
def NRel (s : ByteArray) (w : World) (sb c p : Nat) (vi : Value) (wr : World) : Prop :=
  wr.cell? ⟨sb, 0, none⟩ = some (.func (.func 34) #[] #[.pointer (some ⟨c, 0, none⟩)]) ∧ wr.cell? ⟨c, 0, none⟩ = some (.string s) ∧ Below p w wr ∧
  ((vi = .int .i64 0 ∧ PAt p (.slice none 0 0) wr) ∨ (vi = .int .i64 1 ∧ ∃ st, Holds s st wr ∧ PAt p st wr))
/-- what NewParser leaves with that option -/
def NewS (s : ByteArray) (w : World) (e : Ending) (w' : World) : Prop := ∃ p st, e = .returned (.pointer (some ⟨p, 0, none⟩)) ∧ Holds s st w' ∧ PAt p st w' ∧ Below w.heap.size w w'
set_option maxRecDepth 100000 in
set_option maxHeartbeats 4000000 in
theorem newParser_one (s : ByteArray) (sb c : Nat) (w : World) (hs : w.cell? ⟨sb, 0, none⟩ = some (.func (.func 34) #[] #[.pointer (some ⟨c, 0, none⟩)])) (hc : w.cell? ⟨c, 0, none⟩ = some (.string s)) :
    Calls Try.prog 29 #[.slice (some ⟨sb, 0, none⟩) 1 1] w (NewS s w) := by
  obtain ⟨C, hC, h⟩ := Option.map_eq_some_iff.1 built_new
  simp only [Prod.mk.injEq] at h
  have HC := Lib.hid hC
  have HS := Lib.hid h
  have HB0 : Below w.heap.size w (w.alloc (.cells C 71)) := (Below.refl _ _).alloc (Nat.le_refl _) _
  have H0 : Hid (NRel s w sb c w.heap.size (.int .i64 0) (w.alloc (.cells C 71))) := by
    refine Lib.hid ⟨cell_later HB0 hs, cell_later HB0 hc, HB0, .inl ⟨rfl, ?_⟩⟩
    obtain ⟨s0, s1, s2, s3, s4⟩ := h
    exact ⟨by simpa using s1, by simpa using s2, by simpa using s3, by simpa using s4, by simp⟩
  have hsl : sb < w.heap.size := World.block_lt_of_cell? w _ hs
  have hcl : c < w.heap.size := World.block_lt_of_cell? w _ hc
  clear hC h HB0 hs hc
  go_enter Try.func29, Try.ntmps29
  go_wp2_with ((with_reducible refine wpList_buildTo rfl 71 _ rfl _ rfl C ?_ ?_); (focus (simp; exact HC.out)))
  go_loopw [5, 10] (fun _ vi wr => NRel s w sb c w.heap.size vi wr) (fun _ vi _ => (1 - intOf vi).toNat)
  case atStart => exact H0.out
  case round =>
    obtain ⟨hsc, hcc, hbe, ⟨rfl, hp⟩ | ⟨rfl, st, hst, hp⟩⟩ := hrel
    · have HP := Lib.hid hp
      have HBE := Lib.hid hbe
      have hne := hp.lt
      clear hp hbe
      go_wp2_with (go_at_call 34; refine (doStop s w.heap.size c _ _ hcc HP.out).mono ?_; rintro e w2 ⟨rfl, st, hst, hp2, hb2⟩; have HST := Lib.hid hst; have HP2 := Lib.hid hp2; have HB2 := Lib.hid hb2; clear hst hp2 hb2)
      go_roundw
      case rel =>
        have hbp := HB2.out w.heap.size (Nat.le_refl _) (Nat.le_of_lt hne)
        exact ⟨(hbp.cell (p := ⟨sb, 0, none⟩) hsl).trans hsc, (hbp.cell (p := ⟨c, 0, none⟩) hcl).trans hcc, HBE.out.trans hbp, .inr ⟨rfl, st, HST.out, HP2.out⟩⟩
      case measure => simp [intOf]
    · have HP := Lib.hid hp
      have HST := Lib.hid hst
      have HBE := Lib.hid hbe
      clear hp hst hbe
      go_wp2
      go_ret
      exact ⟨w.heap.size, st, rfl, HST.out, HP.out, HBE.out⟩
theorem rd_stop (p : Nat) (st : Value) (w : World) (h : PAt p st w) :
    Calls Try.prog 23 #[.pointer (some ⟨p, 0, none⟩)] w fun e w' => e = .returned st ∧ w = w' := by
  obtain ⟨a1, a2, a3, a4, -⟩ := h
  go_enter Try.func23, Try.ntmps23
  go_wp2
  go_ret
  exact ⟨rfl, rfl⟩
theorem rd_lang (p : Nat) (st : Value) (w : World) (h : PAt p st w) :
    Calls Try.prog 24 #[.pointer (some ⟨p, 0, none⟩)] w fun e w' => e = .returned (.int .i64 1) ∧ w = w' := by
  obtain ⟨a1, a2, a3, a4, -⟩ := h
  go_enter Try.func24, Try.ntmps24
  go_wp2
  go_ret
  exact ⟨rfl, rfl⟩
theorem rd_keep (p : Nat) (st : Value) (w : World) (h : PAt p st w) :
    Calls Try.prog 25 #[.pointer (some ⟨p, 0, none⟩)] w fun e w' => e = .returned (.bool false) ∧ w = w' := by
  obtain ⟨a1, a2, a3, a4, -⟩ := h
  go_enter Try.func25, Try.ntmps25
  go_wp2
  go_ret
  exact ⟨rfl, rfl⟩
theorem rd_max (p : Nat) (st : Value) (w : World) (h : PAt p st w) :
    Calls Try.prog 26 #[.pointer (some ⟨p, 0, none⟩)] w fun e w' => e = .returned (.int .i64 0) ∧ w = w' := by
  obtain ⟨a1, a2, a3, a4, -⟩ := h
  go_enter Try.func26, Try.ntmps26
  go_wp2
  go_ret
  exact ⟨rfl, rfl⟩
set_option maxHeartbeats 1000000 in
theorem znew_any (s : ByteArray) (w : World) (h4 : s.size ≤ 4) (hs : NoBlank s) :
    Calls Try.prog 22 #[.string s] w (NewS s w) := by
  have HS := Lib.hid hs
  clear hs
  go_enter Try.func22, Try.ntmps22
  go_wp2_with (go_at_call 30; refine (stopAt_any s _ h4 HS.out).mono ?_; rintro e w2 ⟨B, rfl, hB, hc, hb2⟩; have HB2 := Lib.hid hb2; clear hb2)
  refine (newParser_one s _ B _ ?_ ?_).mono ?_
  · go_simp
  · exact cell_later ((Below.refl _ _).alloc (Nat.le_refl _) _) hc
  rintro e w3 ⟨p, st, rfl, hst, hp, hb3⟩
  have HST := Lib.hid hst
  have HP := Lib.hid hp
  have HB3 := Lib.hid (HB2.out.trans (((Below.refl w2.heap.size w2).alloc (Nat.le_refl _) _).trans (hb3.mono (by simp)) |>.mono HB2.out.size))
  clear hst hp hb3
  go_wp2
  go_ret
  exact ⟨p, st, rfl, HST.out, HP.out, HB3.out⟩
set_option maxHeartbeats 2000000 in
theorem ok_any (s : ByteArray) (w : World) (h4 : s.size ≤ 4) :
    Calls Try.prog 21 #[.string s] w (AnyBool (NoBlank s) w) := by
  have h5 : ¬ (4 : Int) < (s.size : Int) := by omega
  go_enter Try.func21, Try.ntmps21
  go_wp2
  go_loop [3] (fun vi => ∃ k : Nat, k ≤ s.size ∧ vi = .int .i64 k ∧ ∀ i (h : i < s.size), i < k → ¬ Blank (s[i]'h).toNat) (fun vi => s.size - (intOf vi).toNat)
  case atStart => exact ⟨0, Nat.zero_le _, rfl, fun i h h0 => by omega⟩
  case round =>
    obtain ⟨k, hk, rfl, hall⟩ := hrel
    have HA := Lib.hid hall
    clear hall
    by_cases hlt : k < s.size
    · have i0 : (0 : Int) ≤ (k : Int) := by omega
      have i1 : (k : Int) < (s.size : Int) := by omega
      go_wp2
      all_goals first
        | (go_ret
           exact ⟨false, rfl, (fun h => by cases h), rfl⟩)
        | (have HN : Hid (¬ Blank (s[k]'hlt).toNat) := Lib.hid (by unfold Blank; simp only [beq_eq_false_iff_ne, ne_eq, beq_iff_eq] at *; omega)
           go_round
           case rel =>
             refine ⟨k + 1, by omega, by go_num, fun i h hi => ?_⟩
             rcases Nat.lt_or_ge i k with h' | h'
             · exact HA.out i h h'
             · have : i = k := by omega
               subst this; exact HN.out
           case measure => simp [intOf]; omega)
    · have hnk : ¬ (k : Int) < (s.size : Int) := by omega
      go_wp2
      go_ret
      exact ⟨true, rfl, (fun _ i h => HA.out i h (by omega)), rfl⟩
end SA
end Go.Proofs.Ytmojheonollpeaa
