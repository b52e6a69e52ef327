/- The contracts that FnLitBatchesNeverAlias calls, over its invariant: the Lits made so far lie apart and hold their own values. Conditions: the invariant. -/
import Derived.Test.YtknilfihibmgdaaLit
import Derived.Test.YtknilfihibmgdaaSlices
import Derived.Great.BuildSlice
namespace Go.Proofs.Ytknilfihibmgdaa
namespace LB
open Go.RowKit

theorem FR.of_alloc {w W : World} {b g o : Nat} {x : Obj} (h : FR (w.alloc x) b g o W) : FR w b g o W :=
  ⟨Nat.le_trans (by simp) h.1, fun i hi h1 h2 => (h.2.1 i (Nat.lt_of_lt_of_le hi (by simp)) h1 h2).trans (Below.heap_alloc w x i hi), fun k hk hg => (h.2.2 k hk (Nat.lt_of_lt_of_le hg (by simp))).trans (World.cell?_alloc_lt w x ⟨g, k, none⟩ hg)⟩
theorem Left.alloc {b m : Nat} {A : Option Addr} {W : World} (h : Left b m A W) (x : Obj) : Left b m A (W.alloc x) :=
  ⟨h.1.alloc x, fun hm => by
    obtain ⟨g, o, e, hG, h2, h3⟩ := h.2 hm
    exact ⟨g, o, e, hG.block (Below.heap_alloc W x g hG.lt), h2, h3⟩⟩
set_option maxHeartbeats 1000000 in
theorem zlit_any (b m : Nat) (A : Option Addr) (po pl : Int) (s : ByteArray) (w : World) (h : Left b m A w) :
    Calls Try.prog 47 #[.pointer (some ⟨b, 0, none⟩), posV po pl, .string s] w (Made b m A po pl s w) := by
  have H := Lib.hid h
  clear h
  go_enter Try.func47, Try.ntmps47
  go_wp2_with (first
    | (go_at_call 58; refine (lit_any b m A po pl s _ (H.out.alloc _)).mono ?_; rintro e w' ⟨g, o, m', A', rfl, hq⟩
       have HQ := Lib.hid hq; clear hq))
  go_ret
  obtain ⟨h1, h2, h3, h4, h5, h6, h7, h8, h9⟩ := HQ.out
  exact ⟨g, o, m', A', rfl, h1, h2, h3.of_alloc, h4, h5, fun B hB hw hg => ((Below.refl B w).alloc hw _).trans (h6 B hB (Nat.le_trans hw (by simp)) hg), h7, fun hm => Nat.le_trans (by simp) (h8 hm), h9⟩
set_option maxHeartbeats 1000000 in
theorem znext_any (b : Nat) (v : Value) (w : World) (h : PS b v w) :
    Calls Try.prog 49 #[.pointer (some ⟨b, 0, none⟩)] w fun e w' => e = .returned (posV 0 16385) ∧ Below w.heap.size w w' := by
  have H := Lib.hid h
  clear h
  go_enter Try.func49, Try.ntmps49
  go_wp2_with (first
    | (go_at_call 59; refine (nextPos_any b v _ (H.out.alloc _)).mono ?_; rintro e w1 ⟨rfl, hq⟩
       have q0 : w1.cell? ⟨w.heap.size, 0, none⟩ = some (.int .u32 0) := cell_later hq (by go_simp)
       have q1 : w1.cell? ⟨w.heap.size, 1, none⟩ = some (.int .u32 0) := cell_later hq (by go_simp)
       have f0 : w1.frozen? ⟨w.heap.size, 0, none⟩ = false := (hq.frozen (p := ⟨w.heap.size, 0, none⟩) (by simp)).trans (by go_simp)
       have f1 : w1.frozen? ⟨w.heap.size, 1, none⟩ = false := (hq.frozen (p := ⟨w.heap.size, 1, none⟩) (by simp)).trans (by go_simp)
       have HQ := Lib.hid hq; clear hq))
  refine bodyPost_ret (v := posV 0 16385) (by simp [results, Try.results49, go_sem, q0, q1]) rfl ⟨rfl, ?_⟩
  exact ((((Below.refl _ _).alloc (Nat.le_refl _) _).trans (HQ.out.mono (by simp))).setCell (Nat.le_refl _) _).setCell (Nat.le_refl _) _
theorem built_pos : (Try.prog.built 106 [(12, .int .i64 0), (13, .int .i64 1), (14, .int .i64 1), (2, .int .u64 0), (4, .int .i64 0)]).map (fun C => (C.size, C[12]?, C[2]?, C[4]?, C[13]?, C[14]?, C[37]?)) = some (2088, some (.int .i64 0), some (.int .u64 0), some (.int .i64 0), some (.int .i64 1), some (.int .i64 1), some (.slice none 0 0)) := by kernel_rfl
def NewPP (w : World) (x : Ending) (w' : World) : Prop := x = .returned (.pointer (some ⟨w.heap.size, 0, none⟩)) ∧ PS w.heap.size (.slice none 0 0) w' ∧ Below w.heap.size w w' ∧ w'.heap.size = w.heap.size + 1
set_option maxRecDepth 100000 in
set_option maxHeartbeats 1000000 in
theorem newPP_any (w : World) : Calls Try.prog 46 #[.int .i64 0, .int .i64 1, .int .i64 1, .int .u64 0, .int .i64 0] w (NewPP w) := by
  obtain ⟨C, hC, h⟩ := Option.map_eq_some_iff.1 built_pos
  simp only [Prod.mk.injEq] at h
  have HC := Lib.hid hC
  have HS := Lib.hid h
  clear hC h
  go_enter Try.func46, Try.ntmps46
  go_wp2_with ((with_reducible refine wpList_buildTo rfl 106 _ rfl _ rfl C ?_ ?_); (focus (simp; exact HC.out)))
  go_ret
  exact ⟨rfl, ⟨C, PBlk.new w C, HS.out⟩, (Below.refl _ _).alloc (Nat.le_refl _) _, by simp⟩
/-- the Lits made so far -/
def Inv (w0 : World) (b L n k : Nat) (f : Nat → ByteArray) (W : World) : Prop :=
  ∃ m A D, Left b m A W ∧ W.heap[L]? = some (.cells D 82 (0, 0)) ∧ D.size = n ∧ L ≠ b ∧ Below w0.heap.size w0 W ∧ w0.heap.size ≤ b ∧ w0.heap.size ≤ L ∧ (∀ g o, A = some ⟨g, o, none⟩ → 0 < m → w0.heap.size ≤ g) ∧
    ∀ i, i < k → ∃ g o, D[i]? = some (.pointer (some ⟨g, o, none⟩)) ∧ LitAt W g o i 16385 (f i) ∧ g ≠ b ∧ g ≠ L ∧ ∀ g1 o1, A = some ⟨g1, o1, none⟩ → 0 < m → g = g1 → o + 5 ≤ o1
theorem LitAt.of_cells {W W' : World} {g o : Nat} {po pl : Int} {s : ByteArray} (h : LitAt W g o po pl s) (hc : ∀ k, k < o + 5 → W'.cell? ⟨g, k, none⟩ = W.cell? ⟨g, k, none⟩) : LitAt W' g o po pl s :=
  ⟨(hc _ (by omega)).trans h.1, (hc _ (by omega)).trans h.2.1, (hc _ (by omega)).trans h.2.2.1, (hc _ (by omega)).trans h.2.2.2.1, (hc _ (by omega)).trans h.2.2.2.2⟩
theorem LitAt.lt {W : World} {g o : Nat} {po pl : Int} {s : ByteArray} (h : LitAt W g o po pl s) : g < W.heap.size := World.block_lt_of_cell? W _ h.1
theorem cell_block {W W' : World} {g : Nat} (h : W'.heap[g]? = W.heap[g]?) (k : Nat) : W'.cell? ⟨g, k, none⟩ = W.cell? ⟨g, k, none⟩ := by unfold World.cell?; rw [h]
theorem some_lt {W : World} {g : Nat} {o : Obj} (h : W.heap[g]? = some o) : g < W.heap.size := by
  rcases Nat.lt_or_ge g W.heap.size with hlt | hge
  · exact hlt
  · rw [Array.getElem?_eq_none hge] at h; cases h
theorem Inv.below {w0 : World} {b L n k : Nat} {f : Nat → ByteArray} {W W' : World} (h : Inv w0 b L n k f W) (hb : Below W.heap.size W W') : Inv w0 b L n k f W' := by
  obtain ⟨m, A, D, h1, h2, h3, h4, h5, h6, h7, h8, h10⟩ := h
  refine ⟨m, A, D, ⟨h1.1.below hb h1.1.lt, fun hm => ?_⟩, (hb.block L (some_lt h2)).trans h2, h3, h4, h5.trans (hb.mono h5.size), h6, h7, h8, fun i hi => ?_⟩
  · obtain ⟨g, o, e, hG, r⟩ := h1.2 hm
    exact ⟨g, o, e, hG.block (hb.block g hG.lt), r⟩
  · obtain ⟨g, o, e, hL, r⟩ := h10 i hi
    exact ⟨g, o, e, hL.of_cells fun k _ => cell_block (hb.block g hL.lt) k, r⟩
theorem Inv.alloc {w0 : World} {b L n k : Nat} {f : Nat → ByteArray} {W : World} (h : Inv w0 b L n k f W) (x : Obj) : Inv w0 b L n k f (W.alloc x) := h.below ((Below.refl _ _).alloc (Nat.le_refl _) x)
theorem Inv.drew {w0 : World} {b L n k : Nat} {f : Nat → ByteArray} {W : World} (h : Inv w0 b L n k f W) : Inv w0 b L n k f W.drew := h.below (Below.refl _ _).drew
theorem Inv.row {w0 : World} {b L n k : Nat} {f : Nat → ByteArray} {W : World} (h : Inv w0 b L n k f W) (hk : k < n) : (∃ v, W.cell? ⟨L, k, none⟩ = some v) ∧ W.frozen? ⟨L, k, none⟩ = false := by
  obtain ⟨m, A, D, h1, h2, h3, h4, h5, h6, h7, h8, h10⟩ := h
  exact ⟨⟨_, (cell_of_row W L k D _ (0, 0) h2).trans (Array.getElem?_eq_getElem (by omega))⟩, by simp [World.frozen?, h2]⟩
/-- a Lit is made, its pointer not yet stored -/
def Pend (w0 : World) (b L n k : Nat) (f : Nat → ByteArray) (g o : Nat) (W : World) : Prop :=
  ∃ m A D, Left b m A W ∧ W.heap[L]? = some (.cells D 82 (0, 0)) ∧ D.size = n ∧ L ≠ b ∧ Below w0.heap.size w0 W ∧ w0.heap.size ≤ b ∧ w0.heap.size ≤ L ∧ (∀ g o, A = some ⟨g, o, none⟩ → 0 < m → w0.heap.size ≤ g) ∧
    (∀ i, i < k → ∃ g o, D[i]? = some (.pointer (some ⟨g, o, none⟩)) ∧ LitAt W g o i 16385 (f i) ∧ g ≠ b ∧ g ≠ L ∧ ∀ g1 o1, A = some ⟨g1, o1, none⟩ → 0 < m → g = g1 → o + 5 ≤ o1) ∧
    LitAt W g o k 16385 (f k) ∧ g ≠ b ∧ g ≠ L ∧ ∀ g1 o1, A = some ⟨g1, o1, none⟩ → 0 < m → g = g1 → o + 5 ≤ o1
theorem Pend.inv {w0 : World} {b L n k : Nat} {f : Nat → ByteArray} {g o : Nat} {W : World} (h : Pend w0 b L n k f g o W) : Inv w0 b L n k f W := by
  obtain ⟨m, A, D, h1, h2, h3, h4, h5, h6, h7, h8, h10, _⟩ := h
  exact ⟨m, A, D, h1, h2, h3, h4, h5, h6, h7, h8, h10⟩
theorem Pend.store {w0 : World} {b L n k : Nat} {f : Nat → ByteArray} {g o : Nat} {W : World} (h : Pend w0 b L n k f g o W) (hk : k < n) : Inv w0 b L n (k + 1) f (W.setCell ⟨L, k, none⟩ (.pointer (some ⟨g, o, none⟩))) := by
  obtain ⟨m, A, D, h1, h2, h3, h4, h5, h6, h7, h8, h10, h11, h12, h13, h14⟩ := h
  have hL : ∀ x, x ≠ L → (W.setCell ⟨L, k, none⟩ (.pointer (some ⟨g, o, none⟩))).heap[x]? = W.heap[x]? := fun x hx => Below.heap_setCell W _ _ x hx
  refine ⟨m, A, D.setIfInBounds k (.pointer (some ⟨g, o, none⟩)), ⟨h1.1.far (fun e => h4 e.symm) _, fun hm => ?_⟩, ?_, by simpa using h3, h4, h5.setCell h7 _, h6, h7, h8, fun i hi => ?_⟩
  · obtain ⟨g', o', e, hG, r⟩ := h1.2 hm
    refine ⟨g', o', e, hG.block (hL g' ?_), r⟩
    rintro rfl
    obtain ⟨C, hC, _⟩ := hG
    rw [h2] at hC
    injection hC with hC
    injection hC with _ ht
    exact absurd ht (by decide)
  · simp [World.setCell, Array.getElem?_modify, h2]
  · rcases Nat.lt_or_ge i k with h | h
    · obtain ⟨g', o', e, hA, ha, hb, hc⟩ := h10 i h
      exact ⟨g', o', by rw [Array.getElem?_setIfInBounds_ne (by omega)]; exact e, hA.of_cells fun j _ => cell_block (hL g' hb) j, ha, hb, hc⟩
    · obtain rfl : i = k := by omega
      exact ⟨g, o, by simp [h3, hk], h11.of_cells fun j _ => cell_block (hL g h13) j, h12, h13, h14⟩
theorem Inv.scratch {w0 : World} {b L n k : Nat} {f : Nat → ByteArray} {W : World} (h : Inv w0 b L n k f W) (v : Value) : Inv w0 b L n k f (W.setCell ⟨L, k, none⟩ v) := by
  obtain ⟨m, A, D, h1, h2, h3, h4, h5, h6, h7, h8, h10⟩ := h
  have hL : ∀ x, x ≠ L → (W.setCell ⟨L, k, none⟩ v).heap[x]? = W.heap[x]? := fun x hx => Below.heap_setCell W _ _ x hx
  refine ⟨m, A, D.setIfInBounds k v, ⟨h1.1.far (fun e => h4 e.symm) _, fun hm => ?_⟩, ?_, by simpa using h3, h4, h5.setCell h7 _, h6, h7, h8, fun i hi => ?_⟩
  · obtain ⟨g', o', e, hG, r⟩ := h1.2 hm
    refine ⟨g', o', e, hG.block (hL g' ?_), r⟩
    rintro rfl
    obtain ⟨C, hC, _⟩ := hG
    rw [h2] at hC
    injection hC with hC
    injection hC with _ ht
    exact absurd ht (by decide)
  · simp [World.setCell, Array.getElem?_modify, h2]
  · obtain ⟨g', o', e, hA, ha, hb, hc⟩ := h10 i hi
    exact ⟨g', o', by rw [Array.getElem?_setIfInBounds_ne (by omega)]; exact e, hA.of_cells fun j _ => cell_block (hL g' hb) j, ha, hb, hc⟩
/-- what the call in the round leaves -/
def PendE (w0 : World) (b L n k : Nat) (f : Nat → ByteArray) (e : Ending) (w' : World) : Prop := ∃ g o, e = .returned (.pointer (some ⟨g, o, none⟩)) ∧ Pend w0 b L n k f g o w'
theorem zlit_inv (w0 : World) (b L n k : Nat) (f : Nat → ByteArray) (W : World) (h : Inv w0 b L n k f W) :
    Calls Try.prog 47 #[.pointer (some ⟨b, 0, none⟩), posV k 16385, .string (f k)] W (PendE w0 b L n k f) := by
  obtain ⟨m, A, D, h1, h2, h3, h4, h5, h6, h7, h8, h10⟩ := h
  refine (zlit_any b m A k 16385 (f k) W h1).mono ?_
  rintro e w' ⟨g, o, m', A', rfl, q1, q2, q3, q4, q5, q6, q7, q8, q9⟩
  have hLs : L < W.heap.size := some_lt h2
  have hgL : g ≠ L := by
    rintro rfl
    rcases Nat.eq_zero_or_pos m with hm | hm
    · have := q8 hm; omega
    · obtain ⟨g', o', e, ⟨C, hC, _⟩, r⟩ := h1.2 hm
      have := q7 hm
      rw [e] at this
      injection this with this
      injection this with this
      subst this
      rw [h2] at hC
      injection hC with hC
      injection hC with _ ht
      exact absurd ht (by decide)
  have hg0 : w0.heap.size ≤ g := by
    rcases Nat.eq_zero_or_pos m with hm | hm
    · have := q8 hm; have := h5.size; omega
    · exact h8 g o (q7 hm) hm
  refine ⟨g, o, rfl, m', A', D, q2, (q3.2.1 L hLs h4 hgL.symm).trans h2, h3, h4, h5.trans (q6 _ h6 h5.size h8), h6, h7, fun g1 o1 ha hm => ?_, fun i hi => ?_, q1, q5, hgL, fun g1 o1 ha hm _ => ?_⟩
  · rw [(q9 g1 o1 ha hm).1]; exact hg0
  · obtain ⟨g', o', e', hA, ha, hb, hc⟩ := h10 i hi
    have hlt := hA.lt
    by_cases hgg : g' = g
    · subst hgg
      rcases Nat.eq_zero_or_pos m with hm | hm
      · have := q8 hm; omega
      · have hle := hc g' o (q7 hm) hm rfl
        refine ⟨g', o', e', hA.of_cells fun j hj => q3.2.2 j (by omega) hlt, ha, hb, fun g1 o1 hx hy hz => ?_⟩
        have := q9 g1 o1 hx hy
        omega
    · refine ⟨g', o', e', hA.of_cells fun j _ => cell_block (q3.2.1 g' hlt ha hgg) j, ha, hb, fun g1 o1 hx hy hz => ?_⟩
      have := q9 g1 o1 hx hy
      omega
  · have := q9 g1 o1 ha hm
    omega
/-- one Lit, as the test reads it -/
theorem Inv.lit {w0 : World} {b L n k i : Nat} {f : Nat → ByteArray} {W : World} (h : Inv w0 b L n k f W) (hi : i < k) : ∃ g o, W.cell? ⟨L, i, none⟩ = some (.pointer (some ⟨g, o, none⟩)) ∧ LitAt W g o i 16385 (f i) := by
  obtain ⟨m, A, D, h1, h2, h3, h4, h5, h6, h7, h8, h10⟩ := h
  obtain ⟨g, o, e, hL, _⟩ := h10 i hi
  exact ⟨g, o, (cell_of_row W L i D _ (0, 0) h2).trans e, hL⟩
theorem Inv.bel {w0 : World} {b L n k : Nat} {f : Nat → ByteArray} {W : World} (h : Inv w0 b L n k f W) : Below w0.heap.size w0 W := by
  obtain ⟨m, A, D, h1, h2, h3, h4, h5, _⟩ := h
  exact h5
theorem Inv.ps {w0 : World} {b L n k : Nat} {f : Nat → ByteArray} {W : World} (h : Inv w0 b L n k f W) : ∃ v, PS b v W := by
  obtain ⟨m, A, D, h1, _⟩ := h
  exact ⟨_, h1.1⟩
end LB
end Go.Proofs.Ytknilfihibmgdaa
