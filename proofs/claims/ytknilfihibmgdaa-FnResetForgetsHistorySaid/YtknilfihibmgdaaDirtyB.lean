/- The contracts of zzCopyDirty, zzBytes and zzDirtyTooBig at a dirty state. Conditions: the cells that the contracts name. -/
import Derived.Test.YtknilfihibmgdaaDirty
namespace Go.Proofs.Ytknilfihibmgdaa
namespace DT
open Go.RowKit

theorem HSmall.below {w w' : World} {a : Option Addr} {n : Nat} (h : HSmall w a n) (hr : HRow w a n) (hb : Below w.heap.size w w') : HSmall w' a n := fun i hi x A N C hx hc => by
  obtain ⟨x', A', N', C', f, hx', hc', -, -⟩ := hr i hi
  obtain rfl : x = x' := by rw [hx] at hx'; simpa using hx'
  have := (hb.cell (p := x.add i) (World.block_lt_of_cell? w _ hc')).trans hc'
  rw [hc] at this
  exact h i hi x A N C hx (by rw [hc', ← this])
/-- block g is just the cells C of type t, none frozen -/
def Bk (w : World) (g : Nat) (t : TypeId) (C : Array Value) : Prop := w.heap[g]? = some (.cells C t (0, 0))
theorem Bk.lt {w : World} {g : Nat} {t : TypeId} {C : Array Value} (h : Bk w g t C) : g < w.heap.size := by
  rcases Nat.lt_or_ge g w.heap.size with hlt | hge
  · exact hlt
  · unfold Bk at h; rw [Array.getElem?_eq_none hge] at h; cases h
theorem Bk.cell {w : World} {g : Nat} {t : TypeId} {C : Array Value} (h : Bk w g t C) (i : Nat) : w.cell? ⟨g, i, none⟩ = C[i]? := cell_of_row w g i C t (0, 0) h
theorem Bk.free {w : World} {g : Nat} {t : TypeId} {C : Array Value} (h : Bk w g t C) (i : Nat) : w.frozen? ⟨g, i, none⟩ = false := by
  unfold Bk at h
  simp [World.frozen?, h]
theorem Bk.new (w : World) (t : TypeId) (C : Array Value) : Bk (w.alloc (.cells C t)) w.heap.size t C := heap_alloc_new w _
theorem Bk.alloc {w : World} {g : Nat} {t : TypeId} {C : Array Value} (h : Bk w g t C) (x : Obj) : Bk (w.alloc x) g t C := (Below.heap_alloc w x g h.lt).trans h
theorem Bk.drew {w : World} {g : Nat} {t : TypeId} {C : Array Value} (h : Bk w g t C) : Bk w.drew g t C := h
theorem Bk.put {w : World} {g : Nat} {t : TypeId} {C : Array Value} (h : Bk w g t C) (i : Nat) (u : Value) : Bk (w.setCell ⟨g, i, none⟩ u) g t (C.setIfInBounds i u) := by
  unfold Bk at h ⊢
  simp [World.setCell, Array.getElem?_modify, h]
theorem Bk.far {w : World} {g : Nat} {t : TypeId} {C : Array Value} (h : Bk w g t C) {p : Addr} (hp : g ≠ p.block) (u : Value) : Bk (w.setCell p u) g t C := (Below.heap_setCell w p u g hp).trans h
theorem Bk.below {w w' : World} {g B : Nat} {t : TypeId} {C : Array Value} (h : Bk w g t C) (hb : Below B w w') (hg : g < B) : Bk w' g t C := (hb.block g hg).trans h
theorem Bk.row {w : World} {g : Nat} {t : TypeId} {C : Array Value} (h : Bk w g t C) (E : Array Value) : Bk (w.setRow g E) g t E := setRow_heap w g C E t (0, 0) h
theorem Bk.rowFar {w : World} {g k : Nat} {t : TypeId} {C : Array Value} (h : Bk w g t C) (hk : g ≠ k) (E : Array Value) : Bk (w.setRow k E) g t C := (setRow_other w k g E hk).trans h

/-- a copy of d: the slices are new -/
def Copied (d : Drt) (w : World) (e : Ending) (w' : World) : Prop :=
  ∃ x nx cx y ny cy z nz cz, e = .returned (.agg { d with bsA := x, bsN := nx, bsC := cx, lbA := y, lbN := ny, lbC := cy, hsA := z, hsN := nz, hsC := cz }.cells) ∧ Below w.heap.size w w'
theorem sizeD : (Try.prog.info? 70).map (·.size) = some 32 := by kernel_rfl
set_option maxRecDepth 100000 in
set_option maxHeartbeats 4000000 in
theorem copy_any (d : Drt) (fb fl : Nat → Int) (w : World) (hb : BRow w d.bsA d.bsN d.bsC fb) (hbn : d.bsN ≤ 1048576) (hl : BRow w d.lbA d.lbN d.lbC fl) (hln : d.lbN ≤ 1048576)
    (hh : HRow w d.hsA d.hsN) (hh0 : d.hsA = none → d.hsN = 0 ∧ d.hsC = 0) (hhs : HSmall w d.hsA d.hsN) (hhn : d.hsN ≤ 1048576) :
    Calls Try.prog 41 #[.agg d.cells] w (Copied d w) := by
  have HBR := Lib.hid hb
  have HLR := Lib.hid hl
  have HHR := Lib.hid hh
  have HH0 := Lib.hid hh0
  have HHS := Lib.hid hhs
  clear hb hl hh hh0 hhs
  have e3 : d.cells[3]? = some (.slice d.bsA d.bsN d.bsC) := rfl
  have e27 : d.cells[27]? = some (.slice d.lbA d.lbN d.lbC) := rfl
  have e20 : d.cells[20]? = some (.slice d.hsA d.hsN d.hsC) := rfl
  have Z0 : ∃ Z : Array Value, Z.size = 32 ∧ #[.int .u32 0, .string ⟨#[]⟩, .int .i64 0, .slice none 0 0, .int .u64 0, .int .i64 0, .int .i64 0, .int .i64 0, .int .i32 0, .int .i64 0, .bool false, .bool false, .bool false, .int .u32 0, .bool false, .int .i64 0, .int .i64 0, .bool false, .int .i64 0, .int .i64 0, .slice none 0 0, .bool false, .int .i64 0, .int .i64 0, .int .i64 0, .int .i64 0, .int .i64 0, .slice none 0 0, .bool false, .int .i64 0, .int .i64 0, .bool false] = Z := ⟨_, rfl, rfl⟩
  obtain ⟨Z, hz1, hz2⟩ := Z0
  have HZ := Lib.hid hz1
  have HZ2 := Lib.hid hz2
  clear hz1 hz2
  go_enter Try.func41, Try.ntmps41
  go_wp2_with (first
    | (go_at_call 26
       rw [HZ2.out]
       have hb0 : Below w.heap.size w ((w.alloc (.cells d.cells 70)).alloc (.cells Z 70)) := ((Below.refl _ _).alloc (Nat.le_refl _) _).alloc (by simp) _
       have k1 := (Bk.new w 70 d.cells).alloc (.cells Z 70)
       have k2 := Bk.new (w.alloc (.cells d.cells 70)) 70 Z
       rw [show (w.alloc (.cells d.cells 70)).heap.size = w.heap.size + 1 by simp] at k2
       refine (clone_any d.bsA d.bsN d.bsC fb _ (HBR.out.below hb0) hbn).mono ?_; rintro e w1 ⟨y1, rfl, -, -, hb1⟩
       have K1 := Lib.hid (k1.below hb1 k1.lt)
       have K2 := Lib.hid (k2.below hb1 k2.lt)
       have HB1 := Lib.hid (hb0.trans (hb1.mono hb0.size))
       have c3 := K1.out.cell 3
       have c27 := (K1.out.cell 27).trans e27
       have c20 := (K1.out.cell 20).trans e20
       have f1 := K1.out.free
       rw [e3] at c3
       clear hb0 k1 k2 hb1 HZ2)
    | (go_at_call 26
       have hb0 := HB1.out.setCell (p := ⟨w.heap.size, 3, none⟩) (Nat.le_refl _) (.slice y1 d.bsN d.bsN)
       have k1 := K1.out.put 3 (.slice y1 d.bsN d.bsN)
       have k2 := K2.out.far (p := ⟨w.heap.size, 3, none⟩) (by simp) (.slice y1 d.bsN d.bsN)
       refine (clone_any d.lbA d.lbN d.lbC fl _ (HLR.out.below hb0) hln).mono ?_; rintro e w2 ⟨y2, rfl, -, -, hb1⟩
       have L1 := Lib.hid (k1.below hb1 k1.lt)
       have L2 := Lib.hid (k2.below hb1 k2.lt)
       have LB1 := Lib.hid (hb0.trans (hb1.mono hb0.size))
       have c27' := (L1.out.cell 27).trans ((Array.getElem?_setIfInBounds_ne (by decide)).trans e27)
       have c20' := (L1.out.cell 20).trans ((Array.getElem?_setIfInBounds_ne (by decide)).trans e20)
       have f1' := L1.out.free
       clear hb0 k1 k2 hb1 K1 K2 HB1 c3 c27 c20 f1)
    | (go_at_call 54
       have hb0 := LB1.out.setCell (p := ⟨w.heap.size, 27, none⟩) (Nat.le_refl _) (.slice y2 d.lbN d.lbN)
       have k1 := L1.out.put 27 (.slice y2 d.lbN d.lbN)
       have k2 := L2.out.far (p := ⟨w.heap.size, 27, none⟩) (by simp) (.slice y2 d.lbN d.lbN)
       refine (clone2_any d.hsA d.hsN d.hsC _ (HHR.out.below hb0) HH0.out (HHS.out.below HHR.out hb0) hhn).mono ?_; rintro e w3 ⟨y3, n3, m3, rfl, hb1⟩
       have M1 := Lib.hid (k1.below hb1 k1.lt)
       have M2 := Lib.hid (k2.below hb1 k2.lt)
       have MB1 := Lib.hid (hb0.trans (hb1.mono hb0.size))
       have c20 := (M1.out.cell 20).trans ((Array.getElem?_setIfInBounds_ne (by decide)).trans ((Array.getElem?_setIfInBounds_ne (by decide)).trans e20))
       have f1 := M1.out.free
       clear hb0 k1 k2 hb1 L1 L2 LB1 c27' c20' f1')
    | (with_reducible refine wpList_load_row rfl 70 _ rfl w.heap.size rfl 70 (Drt.cells { d with bsA := y1, bsN := d.bsN, bsC := d.bsN, lbA := y2, lbN := d.lbN, lbC := d.lbN, hsA := y3, hsN := n3, hsC := m3 }) (0, 0) _ ?_ Try.underlying70 ?_ ?_ ?_
       · exact M1.out.put 20 (.slice y3 n3 m3)
       · rfl
       · exact sizeD)
    | (with_reducible refine wpList_store_row rfl 70 _ _ rfl (w.heap.size + 1) (Drt.cells { d with bsA := y1, bsN := d.bsN, bsC := d.bsN, lbA := y2, lbN := d.lbN, lbC := d.lbN, hsA := y3, hsN := n3, hsC := m3 }) rfl rfl 70 Z ?_ ?_ ?_ ?_ ?_
       · exact M2.out.far (p := ⟨w.heap.size, 20, none⟩) (by simp) (.slice y3 n3 m3)
       · exact sizeD
       · exact HZ.out
       · exact Drt.one _)
    )
  refine bodyPost_ret (v := .agg (Drt.cells { d with bsA := y1, bsN := d.bsN, bsC := d.bsN, lbA := y2, lbN := d.lbN, lbC := d.lbN, hsA := y3, hsN := n3, hsC := m3 }))
    (results_cell_row Try.results41 _ _ (w.heap.size + 1) 70 _ (0, 0) _ rfl ((M2.out.far (p := ⟨w.heap.size, 20, none⟩) (by simp) (.slice y3 n3 m3)).row _) Try.underlying70 rfl sizeD) rfl
    ⟨_, _, _, _, _, _, _, _, _, rfl, below_setRow (MB1.out.setCell (p := ⟨w.heap.size, 20, none⟩) (Nat.le_refl _) _) (Nat.le_succ _) _⟩
/-- P, where x is false -/
def OnFalse (x : Bool) (P : Prop) : Prop := x = false → P
/-- the lengths that zzBytes asks -/
def BOk (d : Drt) (sN : Nat) (w : World) : Prop := d.bsN ≤ 1048576 ∧ d.lbN ≤ 1048576 ∧ sN ≤ 1048576 ∧ d.hsN ≤ 1048576 ∧ HSmall w d.hsA d.hsN
/-- the counts that zzDirtyTooBig asks -/
def COk (d : Drt) : Prop := (0 ≤ d.nhd ∧ d.nhd ≤ 4096) ∧ (0 ≤ d.nac ∧ d.nac ≤ 4096) ∧ (0 ≤ d.nlb ∧ d.nlb ≤ 4096) ∧ 0 ≤ d.nwb ∧ d.nwb ≤ 4096
def SomeT (P : Prop) (w : World) (e : Ending) (w' : World) : Prop := ∃ x : Bool, e = .returned (.bool x) ∧ OnTrue x P ∧ Below w.heap.size w w'
def SomeF (P : Prop) (w : World) (e : Ending) (w' : World) : Prop := ∃ x : Bool, e = .returned (.bool x) ∧ OnFalse x P ∧ Below w.heap.size w w'
def Rel3 (W : World) (a : Option Addr) (n : Nat) (z i : Value) : Prop := ∃ (k : Nat) (zz : Int), k ≤ n ∧ z = .int .i64 zz ∧ i = .int .i64 k ∧ HSmall W a k
def Rel4 (n : Nat) (z i : Value) : Prop := ∃ (k : Nat) (zz : Int), k ≤ n ∧ z = .int .i64 zz ∧ i = .int .i64 k
theorem HSmall.snoc {W : World} {a : Option Addr} {k A : Nat} {x : Addr} {Y : Option Addr} {C : Nat} (h : HSmall W a k) (ha : a = some x) (hc : W.cell? (x.add k) = some (.slice Y A C)) (hA : A ≤ 1048576) : HSmall W a (k + 1) := fun i hi x' A' N' C' hx' hc' => by
  rcases Nat.lt_or_ge i k with h1 | h1
  · exact h i h1 x' A' N' C' hx' hc'
  · obtain rfl : i = k := by omega
    obtain rfl : x = x' := by rw [ha] at hx'; simpa using hx'
    rw [hc] at hc'
    injection hc' with hc'
    injection hc' with _ h2 _
    omega
theorem HSmall.back {w W : World} {a : Option Addr} {n : Nat} (h : HSmall W a n) (hb : Below w.heap.size w W) : HSmall w a n := fun i hi x A N C hx hc => by
  exact h i hi x A N C hx ((hb.cell (p := x.add i) (World.block_lt_of_cell? w _ hc)).trans hc)
theorem HSmall.none {W : World} {a : Option Addr} : HSmall W a 0 := fun i hi => by omega
set_option maxRecDepth 100000 in
set_option maxHeartbeats 4000000 in
theorem bytes_any (d : Drt) (b : Bool) (lg rm : Int) (sA : Option Addr) (sN sC : Nat) (w : World) (hh : HRow w d.hsA d.hsN) (hn : d.hsN ≤ 9223372036854775807) :
    Calls Try.prog 39 #[.agg d.cells, .bool b, .int .i64 lg, .int .i64 rm, .slice sA sN sC] w (SomeT (BOk d sN w) w) := by
  have HB := Lib.hid ((Below.refl w.heap.size w).alloc (Nat.le_refl _) (.cells d.cells 70))
  have HH := Lib.hid (hh.below HB.out)
  have HK := Lib.hid (Bk.new w 70 d.cells)
  clear hh
  have e1 : d.cells[1]? = some (.string d.val) := rfl
  have e3 : d.cells[3]? = some (.slice d.bsA d.bsN d.bsC) := rfl
  have e27 : d.cells[27]? = some (.slice d.lbA d.lbN d.lbC) := rfl
  have e20 : d.cells[20]? = some (.slice d.hsA d.hsN d.hsC) := rfl
  go_enter Try.func39, Try.ntmps39
  go_wp2
  all_goals try (go_ret; exact ⟨false, rfl, (fun h => by cases h), HB.out⟩)
  have c20 := (HK.out.cell 20).trans e20
  have c27 := (HK.out.cell 27).trans e27
  clear HK e1 e3 e20 e27
  generalize w.alloc (.cells d.cells 70) = W at *
  have g1 : d.bsN ≤ 1048576 := by omega
  have g2 : d.hsN ≤ 1048576 := by omega
  go_loop [11, 12] (fun z i => Rel3 W d.hsA d.hsN z i) (fun _ i => d.hsN - (intOf i).toNat)
  case atStart => exact ⟨0, _, Nat.zero_le _, rfl, rfl, HSmall.none⟩
  case round =>
    obtain ⟨k, zz, hk, rfl, rfl, hs⟩ := hrel
    have HS := Lib.hid hs
    clear hs
    by_cases hlt : k < d.hsN
    · obtain ⟨x, A, N, C, f, hx, hc, hr, hN⟩ := HH.out k hlt
      have i0 : (0 : Int) ≤ (k : Int) := by omega
      have i1 : (k : Int) < (d.hsN : Int) := by omega
      have HC := Lib.hid hc
      have HX := Lib.hid hx
      clear hr
      go_wp2
      all_goals first
        | (go_ret; exact ⟨false, rfl, (fun h => by cases h), HB.out⟩)
        | (go_round
           case rel => exact ⟨k + 1, _, by omega, rfl, by go_num, HS.out.snoc HX.out HC.out (by omega)⟩
           case measure => simp [intOf]; omega)
    · have hkn : ¬ (k : Int) < (d.hsN : Int) := by omega
      have hke : k = d.hsN := by omega
      have HKE := Lib.hid hke
      clear hke
      go_wp2
      all_goals first
        | (go_ret; exact ⟨false, rfl, (fun h => by cases h), HB.out⟩)
        | (go_ret; exact ⟨true, rfl, (fun _ => ⟨g1, by omega, by omega, g2, HSmall.back (HKE.out ▸ HS.out) HB.out⟩), HB.out⟩)
end DT
end Go.Proofs.Ytknilfihibmgdaa
