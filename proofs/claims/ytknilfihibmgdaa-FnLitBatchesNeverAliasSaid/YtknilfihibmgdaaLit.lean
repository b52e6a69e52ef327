/- The contracts of nextPos and lit over a parser that is known by the cells that they read. Conditions: the state that each contract names. -/
import Derived.Test.YtknilfihibmgdaaReset
import Derived.Test.YtknilfihibmgdaaPos
import Derived.Deep.QuietTactic
import Derived.BigQuiet
import Derived.Deep.DeepCutAuto
import Derived.Laws.MakeOwn
namespace Go.Proofs.Ytknilfihibmgdaa
namespace LB
open Go.RowKit

/-- the cells of the parser that lit and nextPos read -/
def PC (C : Array Value) (v : Value) : Prop := C.size = 2088 ∧ C[12]? = some (.int .i64 0) ∧ C[2]? = some (.int .u64 0) ∧ C[4]? = some (.int .i64 0) ∧ C[13]? = some (.int .i64 1) ∧ C[14]? = some (.int .i64 1) ∧ C[37]? = some v
/-- the parser in block b; its litBatch is v -/
def PS (b : Nat) (v : Value) (W : World) : Prop := ∃ C, PBlk W b C ∧ PC C v
theorem PS.put {b : Nat} {v : Value} {W : World} (h : PS b v W) (v' : Value) : PS b v' (W.setCell ⟨b, 37, none⟩ v') := by
  obtain ⟨C, h, h0, h1, h2, h3, h4, h5, h6⟩ := h
  exact ⟨_, h.put 37 v', by simpa using h0, by simpa using h1, by simpa using h2, by simpa using h3, by simpa using h4, by simpa using h5, by simp [h0]⟩
theorem PS.far {b : Nat} {v : Value} {W : World} (h : PS b v W) {p : Addr} (hp : b ≠ p.block) (u : Value) : PS b v (W.setCell p u) := by
  obtain ⟨C, h, r⟩ := h
  exact ⟨C, (Below.heap_setCell W p u b hp).trans h, r⟩
theorem PS.lt {b : Nat} {v : Value} {W : World} (h : PS b v W) : b < W.heap.size := by obtain ⟨C, h, _⟩ := h; exact h.lt
theorem PS.below {b B : Nat} {v : Value} {W W' : World} (h : PS b v W) (hb : Below B W W') (hB : b < B) : PS b v W' := by
  obtain ⟨C, h, r⟩ := h
  exact ⟨C, h.below hb hB, r⟩
theorem PS.alloc {b : Nat} {v : Value} {W : World} (h : PS b v W) (o : Obj) : PS b v (W.alloc o) := by
  obtain ⟨C, h, r⟩ := h
  exact ⟨C, (Below.heap_alloc W o b h.lt).trans h, r⟩
theorem PS.drewN {b : Nat} {v : Value} {W : World} (h : PS b v W) (n : Nat) : PS b v (W.drewN n) := h
theorem PS.cells {b : Nat} {v : Value} {W : World} (h : PS b v W) : W.cell? ⟨b, 12, none⟩ = some (.int .i64 0) ∧ W.cell? ⟨b, 2, none⟩ = some (.int .u64 0) ∧ W.cell? ⟨b, 4, none⟩ = some (.int .i64 0) ∧
    W.cell? ⟨b, 13, none⟩ = some (.int .i64 1) ∧ W.cell? ⟨b, 14, none⟩ = some (.int .i64 1) ∧ W.cell? ⟨b, 37, none⟩ = some v ∧ W.frozen? ⟨b, 37, none⟩ = false := by
  obtain ⟨C, h, h0, h1, h2, h3, h4, h5, h6⟩ := h
  exact ⟨(h.cell 12).trans h1, (h.cell 2).trans h2, (h.cell 4).trans h3, (h.cell 13).trans h4, (h.cell 14).trans h5, (h.cell 37).trans h6, h.free 37⟩
theorem below_drewN {B : Nat} {a w : World} (h : Below B a w) (n : Nat) : Below B a (w.drewN n) := ⟨h.os, h.tape, h.output, h.size, h.block⟩
set_option maxRecDepth 100000 in
set_option maxHeartbeats 2000000 in
theorem nextPos_any (b : Nat) (v : Value) (w : World) (h : PS b v w) :
    Calls Try.prog 59 #[.pointer (some ⟨b, 0, none⟩)] w fun e w' => e = .returned (posV 0 16385) ∧ Below w.heap.size w w' := by
  have hz : b < w.heap.size := h.lt
  have hz1 : b < w.heap.size + 1 := by omega
  obtain ⟨c12, c2, c4, c13, c14, -, -⟩ := h.cells
  clear h
  have e1 : clampO 0 = 0 := by decide
  have e2 : packLC 1 1 = 16385 := by decide
  go_enter Try.func59, Try.ntmps59
  go_wp2
  go_quiet (fail)
  go_wp2_with (go_at_call 48; refine (newPos_any _ _ _ _ (by omega) (by omega) (by omega)).mono ?_; rintro e w' ⟨rfl, rfl⟩)
  exact bodyPost_ret (v := posV 0 16385) (by simp [results, Try.results59, go_sem]) rfl ⟨rfl, by repeat (first | exact Below.refl _ _ | (refine Below.setCell ?_ (by simp) _) | apply below_drewN | apply bal)⟩
/-- a batch of Lits: one block of 160 cells -/
def GB (W : World) (g : Nat) : Prop := ∃ C, W.heap[g]? = some (.cells C 87 (0, 0)) ∧ C.size = 160
theorem GB.lt {W : World} {g : Nat} (h : GB W g) : g < W.heap.size := by
  obtain ⟨C, h, _⟩ := h
  rcases Nat.lt_or_ge g W.heap.size with hlt | hge
  · exact hlt
  · rw [Array.getElem?_eq_none hge] at h; cases h
theorem GB.cell {W : World} {g : Nat} (h : GB W g) (k : Nat) (hk : k < 160) : (∃ v, W.cell? ⟨g, k, none⟩ = some v) ∧ W.frozen? ⟨g, k, none⟩ = false := by
  obtain ⟨C, h, hC⟩ := h
  exact ⟨⟨_, (cell_of_row W g k C _ (0, 0) h).trans (Array.getElem?_eq_getElem (by omega))⟩, by simp [World.frozen?, h]⟩
theorem GB.block {W W' : World} {g : Nat} (h : GB W g) (hb : W'.heap[g]? = W.heap[g]?) : GB W' g := by
  obtain ⟨C, h, hC⟩ := h
  exact ⟨C, hb.trans h, hC⟩
theorem GB.put {W : World} {g : Nat} (h : GB W g) (k : Nat) (u : Value) : GB (W.setCell ⟨g, k, none⟩ u) g := by
  obtain ⟨C, h, hC⟩ := h
  refine ⟨C.setIfInBounds k u, ?_, by simpa using hC⟩
  simp [World.setCell, Array.getElem?_modify, h]
/-- only block b, the cells of block g from o on, and what is new have turned -/
def FR (w : World) (b g o : Nat) (W : World) : Prop :=
  w.heap.size ≤ W.heap.size ∧ (∀ i, i < w.heap.size → i ≠ b → i ≠ g → W.heap[i]? = w.heap[i]?) ∧ ∀ k, k < o → g < w.heap.size → W.cell? ⟨g, k, none⟩ = w.cell? ⟨g, k, none⟩
theorem FR.refl (w : World) (b g o : Nat) : FR w b g o w := ⟨Nat.le_refl _, fun _ _ _ _ => rfl, fun _ _ _ => rfl⟩
theorem FR.below {w W W' : World} {b g o : Nat} (h : FR w b g o W) (hb : Below W.heap.size W W') : FR w b g o W' :=
  ⟨Nat.le_trans h.1 hb.size, fun i hi h1 h2 => (hb.block i (Nat.lt_of_lt_of_le hi h.1)).trans (h.2.1 i hi h1 h2), fun k hk hg => (hb.cell (p := ⟨g, k, none⟩) (Nat.lt_of_lt_of_le hg h.1)).trans (h.2.2 k hk hg)⟩
theorem FR.alloc {w W : World} {b g o : Nat} (h : FR w b g o W) (x : Obj) : FR w b g o (W.alloc x) := h.below ((Below.refl _ _).alloc (Nat.le_refl _) x)
theorem FR.put_b {w W : World} {b g o : Nat} (h : FR w b g o W) (hbg : b ≠ g) (k : Nat) (u : Value) : FR w b g o (W.setCell ⟨b, k, none⟩ u) :=
  ⟨by simpa [World.setCell] using h.1, fun i hi h1 h2 => (Below.heap_setCell W _ u i h1).trans (h.2.1 i hi h1 h2), fun k' hk hg => (World.cell?_setCell_other W ⟨b, k, none⟩ ⟨g, k', none⟩ u (fun e => by injection e with e; first | exact hbg e | exact hbg e.symm)).trans (h.2.2 k' hk hg)⟩
theorem FR.put_g {w W : World} {b g o : Nat} (h : FR w b g o W) {k : Nat} (hk : o ≤ k) (u : Value) : FR w b g o (W.setCell ⟨g, k, none⟩ u) :=
  ⟨by simpa [World.setCell] using h.1, fun i hi h1 h2 => (Below.heap_setCell W _ u i h2).trans (h.2.1 i hi h1 h2), fun k' hk' hg => (World.cell?_setCell_other W ⟨g, k, none⟩ ⟨g, k', none⟩ u (fun e => by injection e with _ e; omega)).trans (h.2.2 k' hk' hg)⟩
/-- a Lit in memory -/
def LitAt (W : World) (g o : Nat) (po pl : Int) (s : ByteArray) : Prop :=
  W.cell? ⟨g, o, none⟩ = some (.int .u32 po) ∧ W.cell? ⟨g, o + 1, none⟩ = some (.int .u32 pl) ∧ W.cell? ⟨g, o + 2, none⟩ = some (.int .u32 0) ∧ W.cell? ⟨g, o + 3, none⟩ = some (.int .u32 16385) ∧ W.cell? ⟨g, o + 4, none⟩ = some (.string s)
/-- the batch that is left: m Lits from A on -/
def Left (b m : Nat) (A : Option Addr) (W : World) : Prop := PS b (.slice A m m) W ∧ (0 < m → ∃ g o, A = some ⟨g, o, none⟩ ∧ GB W g ∧ o + 5 * m = 160 ∧ g ≠ b)
/-- what lit leaves -/
def Made (b m : Nat) (A : Option Addr) (po pl : Int) (s : ByteArray) (w : World) (e : Ending) (w' : World) : Prop :=
  ∃ g o m' A', e = .returned (.pointer (some ⟨g, o, none⟩)) ∧ LitAt w' g o po pl s ∧ Left b m' A' w' ∧ FR w b g o w' ∧ g < w'.heap.size ∧ g ≠ b ∧
    (∀ B, B ≤ b → B ≤ w.heap.size → (∀ g0 o0, A = some ⟨g0, o0, none⟩ → 0 < m → B ≤ g0) → Below B w w') ∧
    (0 < m → A = some ⟨g, o, none⟩) ∧ (m = 0 → w.heap.size ≤ g) ∧ (∀ g1 o1, A' = some ⟨g1, o1, none⟩ → 0 < m' → g1 = g ∧ o1 = o + 5)
theorem infoLit : (Try.prog.info? 87).map (fun i => (i.zero.map (fun z => z.cells.size), i.size, i.bytes)) = some (some 5, 5, 32) := by kernel_rfl
theorem make_lits : ∃ C : Array Value, C.size = 160 ∧ ∀ w : World, (Instr.makeSlice 102 (.int .i64 32) (.int .i64 32)).run Try.prog w = .ok (.slice (some ⟨w.heap.size, 0, none⟩) 32 32) (w.alloc (.cells C 87)) := by
  obtain ⟨i, hi, h⟩ := Option.map_eq_some_iff.1 infoLit
  simp only [Prod.mk.injEq] at h
  obtain ⟨hz, hs, hby⟩ := h
  obtain ⟨z, hz0, hz1⟩ := Option.map_eq_some_iff.1 hz
  refine ⟨madeCells z.cells (32 * i.size), ?_, fun w => ?_⟩
  · rw [size_madeCells, hs]
  · have hr := run_make (P := Try.prog) w 102 87 i z Try.underlying102 hi hz0 .i64 .i64 32 32 (by omega) (by omega) (by rw [hby]; decide) (by omega)
    exact hr
theorem pos_far {b g P : Nat} {W : World} {po pl : Int} (h1 : b ≠ g) (h2 : P ≠ g) (h3 : P ≠ b) (h4 : W.cell? ⟨P, 0, none⟩ = some (.int .u32 po)) (h5 : W.cell? ⟨P, 1, none⟩ = some (.int .u32 pl)) : b ≠ g ∧ P ≠ g ∧ P ≠ b ∧ W.cell? ⟨P, 0, none⟩ = some (.int .u32 po) ∧ W.cell? ⟨P, 1, none⟩ = some (.int .u32 pl) := ⟨h1, h2, h3, h4, h5⟩
set_option maxRecDepth 100000 in
set_option maxHeartbeats 4000000 in
theorem lit_new (b : Nat) (A : Option Addr) (po pl : Int) (s : ByteArray) (w : World) (h : Left b 0 A w) :
    Calls Try.prog 58 #[.pointer (some ⟨b, 0, none⟩), posV po pl, .string s] w (Made b 0 A po pl s w) := by
  have hz : b < w.heap.size := h.1.lt
  have hz1 : b < w.heap.size + 1 := by omega
  have hz2 : b < w.heap.size + 1 + 1 := by omega
  obtain ⟨-, -, -, -, -, c37, f37⟩ := h.1.cells
  obtain ⟨C, hC, hmk⟩ := make_lits
  have HC := Lib.hid hC
  have H := Lib.hid h
  clear h hC
  go_enter Try.func58, Try.ntmps58
  go_upto_region 5 with fail
  have HP := Lib.hid ((((H.out.1.put (.slice (some ⟨w.heap.size + 1, 0, none⟩) 32 32)).put (.slice (some ⟨w.heap.size + 1, 5, none⟩) 31 31)).alloc (.cells #[.int .u32 po, .int .u32 pl] 26)).alloc (.cells C 87))
  have HG : Hid (GB ((((w.setCell ⟨b, 37, none⟩ (.slice (some ⟨w.heap.size + 1, 0, none⟩) 32 32)).setCell ⟨b, 37, none⟩ (.slice (some ⟨w.heap.size + 1, 5, none⟩) 31 31)).alloc (.cells #[.int .u32 po, .int .u32 pl] 26)).alloc (.cells C 87)) (w.heap.size + 1)) := by
    refine ⟨C, ?_, HC.out⟩
    have := heap_alloc_new (((w.setCell ⟨b, 37, none⟩ (.slice (some ⟨w.heap.size + 1, 0, none⟩) 32 32)).setCell ⟨b, 37, none⟩ (.slice (some ⟨w.heap.size + 1, 5, none⟩) 31 31)).alloc (.cells #[.int .u32 po, .int .u32 pl] 26)) (.cells C 87)
    simpa [World.setCell] using this
  have HF := Lib.hid (((((FR.refl w b (w.heap.size + 1) 0).put_b (by omega) 37 (.slice (some ⟨w.heap.size + 1, 0, none⟩) 32 32)).put_b (by omega) 37 (.slice (some ⟨w.heap.size + 1, 5, none⟩) 31 31)).alloc (.cells #[.int .u32 po, .int .u32 pl] 26)).alloc (.cells C 87))
  have HN := Lib.hid (pos_far (b := b) (g := w.heap.size + 1) (P := w.heap.size) (po := po) (pl := pl) (W := ((((w.setCell ⟨b, 37, none⟩ (.slice (some ⟨w.heap.size + 1, 0, none⟩) 32 32)).setCell ⟨b, 37, none⟩ (.slice (some ⟨w.heap.size + 1, 5, none⟩) 31 31)).alloc (.cells #[.int .u32 po, .int .u32 pl] 26)).alloc (.cells C 87))) (by omega) (by omega) (by omega) (by go_simp) (by go_simp))
  have HL : Hid (∀ B, B ≤ b → B ≤ w.heap.size → Below B w ((((w.setCell ⟨b, 37, none⟩ (.slice (some ⟨w.heap.size + 1, 0, none⟩) 32 32)).setCell ⟨b, 37, none⟩ (.slice (some ⟨w.heap.size + 1, 5, none⟩) 31 31)).alloc (.cells #[.int .u32 po, .int .u32 pl] 26)).alloc (.cells C 87))) := fun B hB hw => ((((Below.refl B w).setCell hB _).setCell hB _).alloc (by simpa [World.setCell] using hw) _).alloc (by simp [World.setCell]; omega) _
  generalize ((((w.setCell ⟨b, 37, none⟩ (.slice (some ⟨w.heap.size + 1, 0, none⟩) 32 32)).setCell ⟨b, 37, none⟩ (.slice (some ⟨w.heap.size + 1, 5, none⟩) 31 31)).alloc (.cells #[.int .u32 po, .int .u32 pl] 26)).alloc (.cells C 87)) = W at *
  have hgs : w.heap.size ≤ w.heap.size + 1 := by omega
  have hPw : w.heap.size + 1 = w.heap.size + 1 := rfl
  generalize w.heap.size + 1 = g at *
  clear hPw c37 f37 hz1 hz2 H
  obtain ⟨⟨x0, g0⟩, y0⟩ := HG.out.cell (0) (by omega)
  obtain ⟨⟨x1, g1⟩, y1⟩ := HG.out.cell (1) (by omega)
  have n1 := HN.out.1
  have n2 := HN.out.2.1
  have n3 := HN.out.2.2.1
  have p0 := HN.out.2.2.2.1
  have p1 := HN.out.2.2.2.2
  go_upto_region 7 with (first
    | (go_at_call 59; refine (nextPos_any b _ _ ((HP.out.far (p := ⟨g, 0, none⟩) n1 (.int .u32 po)).far (p := ⟨g, 1, none⟩) n1 (.int .u32 pl))).mono ?_; rintro e w2 ⟨rfl, hb2⟩
       have HG1 := Lib.hid ((HG.out.put (0) (.int .u32 po)).put (1) (.int .u32 pl))
       obtain ⟨⟨x2, g2⟩, y2⟩ := HG1.out.cell (2) (by omega)
       obtain ⟨⟨x3, g3⟩, y3⟩ := HG1.out.cell (3) (by omega)
       obtain ⟨⟨x4, g4⟩, y4⟩ := HG1.out.cell (4) (by omega)
       have c0 : w2.cell? ⟨g, 0, none⟩ = some (.int .u32 po) := cell_later hb2 (by go_simp)
       have c1 : w2.cell? ⟨g, 1, none⟩ = some (.int .u32 pl) := cell_later hb2 (by go_simp)
       have c2 := cell_later hb2 g2
       have c3 := cell_later hb2 g3
       have c4 := cell_later hb2 g4
       have f2 := (hb2.frozen (p := ⟨g, 2, none⟩) HG1.out.lt).trans y2
       have f3 := (hb2.frozen (p := ⟨g, 3, none⟩) HG1.out.lt).trans y3
       have f4 := (hb2.frozen (p := ⟨g, 4, none⟩) HG1.out.lt).trans y4
       have HB2 := Lib.hid hb2
       clear hb2 g0 g1 g2 g3 g4 y0 y1 y2 y3 y4 p0 p1))
  go_wp2
  go_ret
  have q1 := (HF.out.put_g (k := 0) (by omega) (.int .u32 po)).put_g (k := 1) (by omega) (.int .u32 pl)
  have q2 := q1.below HB2.out
  have q3 := ((q2.put_g (k := 2) (by omega) (.int .u32 0)).put_g (k := 3) (by omega) (.int .u32 16385)).put_g (k := 4) (by omega) (.string s)
  have r2 := ((HP.out.far (p := ⟨g, 0, none⟩) n1 (.int .u32 po)).far (p := ⟨g, 1, none⟩) n1 (.int .u32 pl)).below HB2.out (by simpa [World.setCell] using HP.out.lt)
  have r3 := ((r2.far (p := ⟨g, 2, none⟩) n1 (.int .u32 0)).far (p := ⟨g, 3, none⟩) n1 (.int .u32 16385)).far (p := ⟨g, 4, none⟩) n1 (.string s)
  have s2 := HG1.out.block (HB2.out.block g HG1.out.lt)
  have s3 := ((s2.put (2) (.int .u32 0)).put (3) (.int .u32 16385)).put (4) (.string s)
  have bl : ∀ B, B ≤ g → B ≤ w.heap.size → Below B w W → Below B w _ := fun B hB hBw h => ((((((h.setCell (p := ⟨g, 0, none⟩) hB (.int .u32 po)).setCell (p := ⟨g, 1, none⟩) hB (.int .u32 pl)).trans (HB2.out.mono (by have := h.size; simp [World.setCell]; omega))).setCell (p := ⟨g, 2, none⟩) hB (.int .u32 0)).setCell (p := ⟨g, 3, none⟩) hB (.int .u32 16385)).setCell (p := ⟨g, 4, none⟩) hB (.string s))
  refine ⟨g, 0, _, _, rfl, ⟨by go_simp, by go_simp, by go_simp, by go_simp, by go_simp⟩, ⟨r3, (fun _ => ⟨g, 5, rfl, s3, by omega, n1.symm⟩)⟩, q3, s3.lt, n1.symm, ?_, (fun h => by omega), (fun _ => hgs), (fun g1 o1 h _ => by injection h with h; injection h with h1 h2; exact ⟨h1.symm, h2.symm⟩)⟩
  intro B hB hw _
  exact bl B (by omega) hw (HL.out B hB hw)
set_option maxRecDepth 100000 in
set_option maxHeartbeats 4000000 in
theorem lit_last (b g o : Nat) (po pl : Int) (s : ByteArray) (w : World) (hP : PS b (.slice (some ⟨g, o, none⟩) 1 1) w) (hG : GB w g) (ho : o + 5 * 1 = 160) (hgb : g ≠ b) :
    Calls Try.prog 58 #[.pointer (some ⟨b, 0, none⟩), posV po pl, .string s] w (Made b 1 (some ⟨g, o, none⟩) po pl s w) := by
  have hz : b < w.heap.size := hP.lt
  have hzg : g < w.heap.size := hG.lt
  have hz1 : b < w.heap.size + 1 := by omega
  obtain ⟨-, -, -, -, -, c37, f37⟩ := hP.cells
  have HP0 := Lib.hid hP
  have HG0 := Lib.hid hG
  have hlim : o + 5 ≤ 160 := by omega
  have HO := Lib.hid ho
  clear hP hG ho
  go_enter Try.func58, Try.ntmps58
  go_upto_region 5 with fail
  have HP := Lib.hid ((HP0.out.put (.slice (some ⟨g, o, none⟩) 0 0)).alloc (.cells #[.int .u32 po, .int .u32 pl] 26))
  have HG : Hid (GB ((w.setCell ⟨b, 37, none⟩ (.slice (some ⟨g, o, none⟩) 0 0)).alloc (.cells #[.int .u32 po, .int .u32 pl] 26)) g) := HG0.out.block ((Below.heap_alloc _ _ g (by simpa [World.setCell] using hzg)).trans (Below.heap_setCell w _ _ g hgb))
  have HF := Lib.hid (((FR.refl w b g o).put_b hgb.symm 37 (.slice (some ⟨g, o, none⟩) 0 0)).alloc (.cells #[.int .u32 po, .int .u32 pl] 26))
  have HN := Lib.hid (pos_far (b := b) (g := g) (P := w.heap.size) (po := po) (pl := pl) (W := ((w.setCell ⟨b, 37, none⟩ (.slice (some ⟨g, o, none⟩) 0 0)).alloc (.cells #[.int .u32 po, .int .u32 pl] 26))) hgb.symm (by omega) (by omega) (by go_simp) (by go_simp))
  have HL : Hid (∀ B, B ≤ b → B ≤ w.heap.size → Below B w ((w.setCell ⟨b, 37, none⟩ (.slice (some ⟨g, o, none⟩) 0 0)).alloc (.cells #[.int .u32 po, .int .u32 pl] 26))) := fun B hB hw => ((Below.refl B w).setCell hB _).alloc (by simpa [World.setCell] using hw) _
  generalize ((w.setCell ⟨b, 37, none⟩ (.slice (some ⟨g, o, none⟩) 0 0)).alloc (.cells #[.int .u32 po, .int .u32 pl] 26)) = W at *
  clear c37 f37 hz1 HP0 HG0
  obtain ⟨⟨x0, g0⟩, y0⟩ := HG.out.cell (o) (by omega)
  obtain ⟨⟨x1, g1⟩, y1⟩ := HG.out.cell (o + 1) (by omega)
  have n1 := HN.out.1
  have n2 := HN.out.2.1
  have n3 := HN.out.2.2.1
  have p0 := HN.out.2.2.2.1
  have p1 := HN.out.2.2.2.2
  go_upto_region 7 with (first
    | (go_at_call 59; refine (nextPos_any b _ _ ((HP.out.far (p := ⟨g, o, none⟩) n1 (.int .u32 po)).far (p := ⟨g, o + 1, none⟩) n1 (.int .u32 pl))).mono ?_; rintro e w2 ⟨rfl, hb2⟩
       have HG1 := Lib.hid ((HG.out.put (o) (.int .u32 po)).put (o + 1) (.int .u32 pl))
       obtain ⟨⟨x2, g2⟩, y2⟩ := HG1.out.cell (o + 2) (by omega)
       obtain ⟨⟨x3, g3⟩, y3⟩ := HG1.out.cell (o + 2 + 1) (by omega)
       obtain ⟨⟨x4, g4⟩, y4⟩ := HG1.out.cell (o + 4) (by omega)
       have c0 : w2.cell? ⟨g, o, none⟩ = some (.int .u32 po) := cell_later hb2 (by go_simp)
       have c1 : w2.cell? ⟨g, o + 1, none⟩ = some (.int .u32 pl) := cell_later hb2 (by go_simp)
       have c2 := cell_later hb2 g2
       have c3 := cell_later hb2 g3
       have c4 := cell_later hb2 g4
       have f2 := (hb2.frozen (p := ⟨g, o + 2, none⟩) HG1.out.lt).trans y2
       have f3 := (hb2.frozen (p := ⟨g, o + 2 + 1, none⟩) HG1.out.lt).trans y3
       have f4 := (hb2.frozen (p := ⟨g, o + 4, none⟩) HG1.out.lt).trans y4
       have HB2 := Lib.hid hb2
       clear hb2 g0 g1 g2 g3 g4 y0 y1 y2 y3 y4 p0 p1))
  go_wp2
  go_ret
  have q1 := (HF.out.put_g (k := o) (by omega) (.int .u32 po)).put_g (k := o + 1) (by omega) (.int .u32 pl)
  have q2 := q1.below HB2.out
  have q3 := ((q2.put_g (k := o + 2) (by omega) (.int .u32 0)).put_g (k := o + 2 + 1) (by omega) (.int .u32 16385)).put_g (k := o + 4) (by omega) (.string s)
  have r2 := ((HP.out.far (p := ⟨g, o, none⟩) n1 (.int .u32 po)).far (p := ⟨g, o + 1, none⟩) n1 (.int .u32 pl)).below HB2.out (by simpa [World.setCell] using HP.out.lt)
  have r3 := ((r2.far (p := ⟨g, o + 2, none⟩) n1 (.int .u32 0)).far (p := ⟨g, o + 2 + 1, none⟩) n1 (.int .u32 16385)).far (p := ⟨g, o + 4, none⟩) n1 (.string s)
  have s2 := HG1.out.block (HB2.out.block g HG1.out.lt)
  have s3 := ((s2.put (o + 2) (.int .u32 0)).put (o + 2 + 1) (.int .u32 16385)).put (o + 4) (.string s)
  have bl : ∀ B, B ≤ g → B ≤ w.heap.size → Below B w W → Below B w _ := fun B hB hBw h => ((((((h.setCell (p := ⟨g, o, none⟩) hB (.int .u32 po)).setCell (p := ⟨g, o + 1, none⟩) hB (.int .u32 pl)).trans (HB2.out.mono (by have := h.size; simp [World.setCell]; omega))).setCell (p := ⟨g, o + 2, none⟩) hB (.int .u32 0)).setCell (p := ⟨g, o + 2 + 1, none⟩) hB (.int .u32 16385)).setCell (p := ⟨g, o + 4, none⟩) hB (.string s))
  refine ⟨g, o, _, _, rfl, ⟨by go_simp, by go_simp, by go_simp, by go_simp, by go_simp⟩, ⟨r3, (fun h => by omega)⟩, q3, s3.lt, n1.symm, ?_, (fun _ => rfl), (fun h => by omega), (fun g1 o1 _ h => by omega)⟩
  intro B hB hw hg0
  exact bl B (hg0 g o rfl (by omega)) hw (HL.out B hB hw)
set_option maxRecDepth 100000 in
set_option maxHeartbeats 4000000 in
theorem lit_more (b m g o : Nat) (po pl : Int) (s : ByteArray) (w : World) (hP : PS b (.slice (some ⟨g, o, none⟩) (m + 2) (m + 2)) w) (hG : GB w g) (ho : o + 5 * (m + 2) = 160) (hgb : g ≠ b) :
    Calls Try.prog 58 #[.pointer (some ⟨b, 0, none⟩), posV po pl, .string s] w (Made b (m + 2) (some ⟨g, o, none⟩) po pl s w) := by
  have hz : b < w.heap.size := hP.lt
  have hzg : g < w.heap.size := hG.lt
  have hz1 : b < w.heap.size + 1 := by omega
  obtain ⟨-, -, -, -, -, c37, f37⟩ := hP.cells
  have HP0 := Lib.hid hP
  have HG0 := Lib.hid hG
  have hlim : o + 5 ≤ 160 := by omega
  have HO := Lib.hid ho
  clear hP hG ho
  have e0 : ((((m + 2 : Nat) : Int)) == 0) = false := by simp; omega
  have e1 : (1 : Int) ≤ ((m + 2 : Nat) : Int) := by omega
  go_enter Try.func58, Try.ntmps58
  go_upto_region 5 with fail
  have HP := Lib.hid ((HP0.out.put (.slice (some ⟨g, o + 5, none⟩) (m + 1) (m + 1))).alloc (.cells #[.int .u32 po, .int .u32 pl] 26))
  have HG : Hid (GB ((w.setCell ⟨b, 37, none⟩ (.slice (some ⟨g, o + 5, none⟩) (m + 1) (m + 1))).alloc (.cells #[.int .u32 po, .int .u32 pl] 26)) g) := HG0.out.block ((Below.heap_alloc _ _ g (by simpa [World.setCell] using hzg)).trans (Below.heap_setCell w _ _ g hgb))
  have HF := Lib.hid (((FR.refl w b g o).put_b hgb.symm 37 (.slice (some ⟨g, o + 5, none⟩) (m + 1) (m + 1))).alloc (.cells #[.int .u32 po, .int .u32 pl] 26))
  have HN := Lib.hid (pos_far (b := b) (g := g) (P := w.heap.size) (po := po) (pl := pl) (W := ((w.setCell ⟨b, 37, none⟩ (.slice (some ⟨g, o + 5, none⟩) (m + 1) (m + 1))).alloc (.cells #[.int .u32 po, .int .u32 pl] 26))) hgb.symm (by omega) (by omega) (by go_simp) (by go_simp))
  have HL : Hid (∀ B, B ≤ b → B ≤ w.heap.size → Below B w ((w.setCell ⟨b, 37, none⟩ (.slice (some ⟨g, o + 5, none⟩) (m + 1) (m + 1))).alloc (.cells #[.int .u32 po, .int .u32 pl] 26))) := fun B hB hw => ((Below.refl B w).setCell hB _).alloc (by simpa [World.setCell] using hw) _
  generalize ((w.setCell ⟨b, 37, none⟩ (.slice (some ⟨g, o + 5, none⟩) (m + 1) (m + 1))).alloc (.cells #[.int .u32 po, .int .u32 pl] 26)) = W at *
  clear c37 f37 hz1 HP0 HG0
  obtain ⟨⟨x0, g0⟩, y0⟩ := HG.out.cell (o) (by omega)
  obtain ⟨⟨x1, g1⟩, y1⟩ := HG.out.cell (o + 1) (by omega)
  have n1 := HN.out.1
  have n2 := HN.out.2.1
  have n3 := HN.out.2.2.1
  have p0 := HN.out.2.2.2.1
  have p1 := HN.out.2.2.2.2
  go_upto_region 7 with (first
    | (go_at_call 59; refine (nextPos_any b _ _ ((HP.out.far (p := ⟨g, o, none⟩) n1 (.int .u32 po)).far (p := ⟨g, o + 1, none⟩) n1 (.int .u32 pl))).mono ?_; rintro e w2 ⟨rfl, hb2⟩
       have HG1 := Lib.hid ((HG.out.put (o) (.int .u32 po)).put (o + 1) (.int .u32 pl))
       obtain ⟨⟨x2, g2⟩, y2⟩ := HG1.out.cell (o + 2) (by omega)
       obtain ⟨⟨x3, g3⟩, y3⟩ := HG1.out.cell (o + 2 + 1) (by omega)
       obtain ⟨⟨x4, g4⟩, y4⟩ := HG1.out.cell (o + 4) (by omega)
       have c0 : w2.cell? ⟨g, o, none⟩ = some (.int .u32 po) := cell_later hb2 (by go_simp)
       have c1 : w2.cell? ⟨g, o + 1, none⟩ = some (.int .u32 pl) := cell_later hb2 (by go_simp)
       have c2 := cell_later hb2 g2
       have c3 := cell_later hb2 g3
       have c4 := cell_later hb2 g4
       have f2 := (hb2.frozen (p := ⟨g, o + 2, none⟩) HG1.out.lt).trans y2
       have f3 := (hb2.frozen (p := ⟨g, o + 2 + 1, none⟩) HG1.out.lt).trans y3
       have f4 := (hb2.frozen (p := ⟨g, o + 4, none⟩) HG1.out.lt).trans y4
       have HB2 := Lib.hid hb2
       clear hb2 g0 g1 g2 g3 g4 y0 y1 y2 y3 y4 p0 p1))
  go_wp2
  go_ret
  have q1 := (HF.out.put_g (k := o) (by omega) (.int .u32 po)).put_g (k := o + 1) (by omega) (.int .u32 pl)
  have q2 := q1.below HB2.out
  have q3 := ((q2.put_g (k := o + 2) (by omega) (.int .u32 0)).put_g (k := o + 2 + 1) (by omega) (.int .u32 16385)).put_g (k := o + 4) (by omega) (.string s)
  have r2 := ((HP.out.far (p := ⟨g, o, none⟩) n1 (.int .u32 po)).far (p := ⟨g, o + 1, none⟩) n1 (.int .u32 pl)).below HB2.out (by simpa [World.setCell] using HP.out.lt)
  have r3 := ((r2.far (p := ⟨g, o + 2, none⟩) n1 (.int .u32 0)).far (p := ⟨g, o + 2 + 1, none⟩) n1 (.int .u32 16385)).far (p := ⟨g, o + 4, none⟩) n1 (.string s)
  have s2 := HG1.out.block (HB2.out.block g HG1.out.lt)
  have s3 := ((s2.put (o + 2) (.int .u32 0)).put (o + 2 + 1) (.int .u32 16385)).put (o + 4) (.string s)
  have bl : ∀ B, B ≤ g → B ≤ w.heap.size → Below B w W → Below B w _ := fun B hB hBw h => ((((((h.setCell (p := ⟨g, o, none⟩) hB (.int .u32 po)).setCell (p := ⟨g, o + 1, none⟩) hB (.int .u32 pl)).trans (HB2.out.mono (by have := h.size; simp [World.setCell]; omega))).setCell (p := ⟨g, o + 2, none⟩) hB (.int .u32 0)).setCell (p := ⟨g, o + 2 + 1, none⟩) hB (.int .u32 16385)).setCell (p := ⟨g, o + 4, none⟩) hB (.string s))
  refine ⟨g, o, _, _, rfl, ⟨by go_simp, by go_simp, by go_simp, by go_simp, by go_simp⟩, ⟨r3, (fun _ => ⟨g, o + 5, rfl, s3, by have := HO.out; omega, n1.symm⟩)⟩, q3, s3.lt, n1.symm, ?_, (fun _ => rfl), (fun h => by omega), (fun g1 o1 h _ => by injection h with h; injection h with h1 h2; exact ⟨h1.symm, h2.symm⟩)⟩
  intro B hB hw hg0
  exact bl B (hg0 g o rfl (by omega)) hw (HL.out B hB hw)
theorem lit_any (b m : Nat) (A : Option Addr) (po pl : Int) (s : ByteArray) (w : World) (h : Left b m A w) :
    Calls Try.prog 58 #[.pointer (some ⟨b, 0, none⟩), posV po pl, .string s] w (Made b m A po pl s w) := by
  match m, h with
  | 0, h => exact lit_new b A po pl s w h
  | 1, h =>
    obtain ⟨g, o, rfl, hG, ho, hgb⟩ := h.2 (by omega)
    exact lit_last b g o po pl s w h.1 hG ho hgb
  | m + 2, h =>
    obtain ⟨g, o, rfl, hG, ho, hgb⟩ := h.2 (by omega)
    exact lit_more b m g o po pl s w h.1 hG ho hgb
end LB
end Go.Proofs.Ytknilfihibmgdaa
