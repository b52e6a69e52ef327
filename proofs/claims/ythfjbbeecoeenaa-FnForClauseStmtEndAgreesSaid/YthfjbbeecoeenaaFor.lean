/- The contracts that the laws of n010_98 go through: ZZnewPos_n010_98, posAddCol at every position, ForClause.End. Conditions: the bounds and cells that each contract names. -/
import Derived.Test.YthfjbbeecoeenaaPos
namespace Go.Proofs.Ythfjbbeecoeenaa
open Go.RowKit

theorem newPos98 (o l c : Int) (w : World) (h0 : 0 ≤ l) (h1 : l ≤ 262143) (h2 : 0 ≤ c) (h3 : c ≤ 16383) :
    Calls Try.prog 12 #[.int .u32 o, .int .u32 l, .int .u32 c] w fun e w' => e = .returned (posV o (l * 16384 + c)) ∧ w.alloc (posC o (l * 16384 + c)) = w' := by
  have ho := or_pack l c h0 h1 h2 h3
  go_enter Try.func12, Try.ntmps12
  go_wp2
  exact bodyPost_ret (by simp [results, Try.results12, go_sem]) rfl ⟨rfl, rfl⟩

def avO (o lc n : Int) : Int := if validB o lc = true then addO o n else o
def avL (o lc n : Int) : Int := if validB o lc = true then addLC lc n else lc
theorem avO_t {o lc n : Int} (h : validB o lc = true) : avO o lc n = addO o n := if_pos h
theorem avL_t {o lc n : Int} (h : validB o lc = true) : avL o lc n = addLC lc n := if_pos h
theorem avO_f {o lc n : Int} (h : validB o lc = false) : avO o lc n = o := if_neg (by rw [h]; decide)
theorem avL_f {o lc n : Int} (h : validB o lc = false) : avL o lc n = lc := if_neg (by rw [h]; decide)
theorem valid_le {o lc : Int} (h : validB o lc = true) : o ≤ 4294967284 := by
  simp only [validB, Bool.and_eq_true, decide_eq_true_eq] at h; exact h.1
theorem posAdd_any (o lc n : Int) (w : World) (h0 : 0 ≤ o) (g0 : 0 ≤ lc) (g1 : lc ≤ 4294967295) (n0 : 0 ≤ n) (n1 : n ≤ 100) :
    Calls Try.prog 28 #[posV o lc, .int .i64 n] w fun e w' => e = .returned (posV (avO o lc n) (avL o lc n)) ∧ Below w.heap.size w w' := by
  rcases Bool.eq_false_or_eq_true (validB o lc) with h | h
  · rw [avO_t h, avL_t h]; exact posAdd_ok o lc n w h h0 (valid_le h) g0 g1 n0 n1
  · rw [avO_f h, avL_f h]; exact posAdd_bad o lc n w h

/-- the cells of a for clause that End reads: DonePos and Braces -/
def FcAt (w : World) (b : Nat) (o lc : Int) (br : Bool) : Prop := w.cell? ⟨b, 4, none⟩ = some (.int .u32 o) ∧ w.cell? ⟨b, 5, none⟩ = some (.int .u32 lc) ∧ w.cell? ⟨b, 7, none⟩ = some (.bool br)
def kOf (br : Bool) : Int := if br then 1 else 4
set_option maxHeartbeats 1000000 in
theorem fcEnd_any (b : Nat) (o lc : Int) (br : Bool) (w : World) (h : FcAt w b o lc br) (h0 : 0 ≤ o) (g0 : 0 ≤ lc) (g1 : lc ≤ 4294967295) :
    Calls Try.prog 15 #[.pointer (some ⟨b, 0, none⟩)] w fun e w' => e = .returned (posV (avO o lc (kOf br)) (avL o lc (kOf br))) ∧ Below w.heap.size w w' := by
  obtain ⟨h4, h5, h7⟩ := h
  have hz : b < w.heap.size := World.block_lt_of_cell? w _ h4
  cases br
  · rw [show kOf false = 4 from rfl]
    go_enter Try.func15, Try.ntmps15
    go_wp2_with (go_at_call 28; refine (posAdd_any _ _ _ _ h0 g0 g1 (by omega) (by omega)).mono ?_; rintro e w1 ⟨rfl, hb1⟩; have q0 : w1.cell? ⟨w.heap.size, 0, none⟩ = some (.int .u32 0) := cell_later hb1 (by go_simp); have q1 : w1.cell? ⟨w.heap.size, 1, none⟩ = some (.int .u32 0) := cell_later hb1 (by go_simp); have f0 : w1.frozen? ⟨w.heap.size, 0, none⟩ = false := (hb1.frozen (p := ⟨w.heap.size, 0, none⟩) (by simp)).trans (by simp); have f1 : w1.frozen? ⟨w.heap.size, 1, none⟩ = false := (hb1.frozen (p := ⟨w.heap.size, 1, none⟩) (by simp)).trans (by simp))
    refine bodyPost_ret (v := posV (avO o lc 4) (avL o lc 4)) (by simp [results, Try.results15, go_sem, q0, q1]) rfl ⟨rfl, ?_⟩
    exact ((((Below.refl _ _).alloc (Nat.le_refl _) _).trans (hb1.mono (by simp))).setCell (Nat.le_refl _) _).setCell (Nat.le_refl _) _
  · rw [show kOf true = 1 from rfl]
    go_enter Try.func15, Try.ntmps15
    go_wp2_with (go_at_call 28; refine (posAdd_any _ _ _ _ h0 g0 g1 (by omega) (by omega)).mono ?_; rintro e w1 ⟨rfl, hb1⟩; have q0 : w1.cell? ⟨w.heap.size, 0, none⟩ = some (.int .u32 0) := cell_later hb1 (by go_simp); have q1 : w1.cell? ⟨w.heap.size, 1, none⟩ = some (.int .u32 0) := cell_later hb1 (by go_simp); have f0 : w1.frozen? ⟨w.heap.size, 0, none⟩ = false := (hb1.frozen (p := ⟨w.heap.size, 0, none⟩) (by simp)).trans (by simp); have f1 : w1.frozen? ⟨w.heap.size, 1, none⟩ = false := (hb1.frozen (p := ⟨w.heap.size, 1, none⟩) (by simp)).trans (by simp))
    refine bodyPost_ret (v := posV (avO o lc 1) (avL o lc 1)) (by simp [results, Try.results15, go_sem, q0, q1]) rfl ⟨rfl, ?_⟩
    exact ((((Below.refl _ _).alloc (Nat.le_refl _) _).trans (hb1.mono (by simp))).setCell (Nat.le_refl _) _).setCell (Nat.le_refl _) _
end Go.Proofs.Ythfjbbeecoeenaa
