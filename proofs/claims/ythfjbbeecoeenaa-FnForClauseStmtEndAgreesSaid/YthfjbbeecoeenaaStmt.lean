/- The contracts of Stmt.End, Stmt.Pos, ForClause.Pos and ZZstmtOf_n010_98 at a statement that holds only a for clause. Conditions: the bounds and cells that each contract names. -/
import Derived.Test.YthfjbbeecoeenaaFor
import Derived.Outline
import Derived.Deep.DeepCutAuto
namespace Go.Proofs.Ythfjbbeecoeenaa
open Go.RowKit

/-- the cells of a statement that End and Pos read -/
def StAt (w : World) (s b : Nat) (o lc : Int) (neg : Bool) : Prop :=
  w.cell? ⟨s, 1, none⟩ = some (.iface 36 (.pointer (some ⟨b, 0, none⟩))) ∧ w.cell? ⟨s, 2, none⟩ = some (.int .u32 o) ∧ w.cell? ⟨s, 3, none⟩ = some (.int .u32 lc) ∧
  w.cell? ⟨s, 4, none⟩ = some (.int .u32 0) ∧ w.cell? ⟨s, 5, none⟩ = some (.int .u32 0) ∧ w.cell? ⟨s, 6, none⟩ = some (.bool neg) ∧ w.cell? ⟨s, 10, none⟩ = some (.slice none 0 0)
theorem meth_end (b : Nat) (w : World) : (method 203 36 (.pointer (some ⟨b, 0, none⟩)) "End").run Try.prog w = .ok (15, .pointer (some ⟨b, 0, none⟩)) w := by kernel_rfl
set_option maxRecDepth 100000 in
set_option maxHeartbeats 4000000 in
theorem stEnd_any (s b : Nat) (so sl o lc : Int) (neg br : Bool) (w : World) (h : StAt w s b so sl neg) (hf : FcAt w b o lc br) (s0 : 0 ≤ so) (t0 : 0 ≤ sl) (t1 : sl ≤ 4294967295) (h0 : 0 ≤ o) (g0 : 0 ≤ lc) (g1 : lc ≤ 4294967295) :
    Calls Try.prog 14 #[.pointer (some ⟨s, 0, none⟩)] w fun e w' => e = .returned (posV (avO o lc (kOf br)) (avL o lc (kOf br))) ∧ Below w.heap.size w w' := by
  obtain ⟨c1, c2, c3, c4, c5, c6, c10⟩ := h
  have hz : s < w.heap.size := World.block_lt_of_cell? w _ c1
  have hzb : b < w.heap.size := World.block_lt_of_cell? w _ hf.1
  have hz1 : s < w.heap.size + 1 := by omega
  have hz2 : s < w.heap.size + 1 + 1 := by omega
  have hz3 : s < w.heap.size + 1 + 1 + 1 := by omega
  obtain ⟨f4, f5, f7⟩ := hf
  have hb1 : b < w.heap.size + 1 := by omega
  have hb2 : b < w.heap.size + 1 + 1 := by omega
  have mg := meth_end
  have vz : validB 0 0 = false := by decide
  cases neg
  · go_enter Try.func14, Try.ntmps14
    go_wp2_with (first
      | (go_at_call 25; refine (isValid_any 0 0 _).mono ?_; rintro e w' ⟨rfl, rfl⟩)
      | (go_at_call 15; refine (fcEnd_any b o lc br _ ?_ h0 g0 g1).mono ?_; (focus (exact ⟨by go_simp, by go_simp, by go_simp⟩)); rintro e w1 ⟨rfl, hq⟩
         have q0 : w1.cell? ⟨w.heap.size, 0, none⟩ = some (.int .u32 0) := cell_later hq (by go_simp)
         have q1 : w1.cell? ⟨w.heap.size, 1, none⟩ = some (.int .u32 0) := cell_later hq (by go_simp)
         have q2 : w1.cell? ⟨w.heap.size + 1 + 1, 0, none⟩ = some (.int .u32 so) := cell_later hq (by go_simp)
         have q3 : w1.cell? ⟨w.heap.size + 1 + 1, 1, none⟩ = some (.int .u32 sl) := cell_later hq (by go_simp)
         have qf0 : w1.frozen? ⟨w.heap.size, 0, none⟩ = false := (hq.frozen (p := ⟨w.heap.size, 0, none⟩) (by simp <;> omega)).trans (by go_simp)
         have qf1 : w1.frozen? ⟨w.heap.size, 1, none⟩ = false := (hq.frozen (p := ⟨w.heap.size, 1, none⟩) (by simp <;> omega)).trans (by go_simp)
         have qf2 : w1.frozen? ⟨w.heap.size + 1 + 1, 0, none⟩ = false := (hq.frozen (p := ⟨w.heap.size + 1 + 1, 0, none⟩) (by simp <;> omega)).trans (by go_simp)
         have qf3 : w1.frozen? ⟨w.heap.size + 1 + 1, 1, none⟩ = false := (hq.frozen (p := ⟨w.heap.size + 1 + 1, 1, none⟩) (by simp <;> omega)).trans (by go_simp)
         have qc10 : w1.cell? ⟨s, 10, none⟩ = some (.slice none 0 0) := cell_later hq (by go_simp)
         have HQ := Lib.hid hq; clear hq))
    refine bodyPost_ret (v := posV (avO o lc (kOf br)) (avL o lc (kOf br))) (by simp [results, Try.results14, go_sem, q0, q1]) rfl ⟨rfl, ?_⟩
    have t3 : Below w.heap.size w w1 := by
      refine Below.trans ?_ (HQ.out.mono (by simp only [World.size_alloc]; omega))
      repeat (first | exact Below.refl _ _ | apply Below.drew | apply bal)
    exact (((t3.setCell (by simp only; omega) _).setCell (by simp only; omega) _).setCell (by simp) _).setCell (by simp) _
  · go_enter Try.func14, Try.ntmps14
    go_wp2_with (first
      | (go_at_call 25; refine (isValid_any 0 0 _).mono ?_; rintro e w' ⟨rfl, rfl⟩)
      | (go_at_call 28; refine (posAdd_any so sl 1 _ s0 t0 t1 (by omega) (by omega)).mono ?_; rintro e w0 ⟨rfl, hq⟩
         have p0 : w0.cell? ⟨w.heap.size, 0, none⟩ = some (.int .u32 0) := cell_later hq (by go_simp)
         have p1 : w0.cell? ⟨w.heap.size, 1, none⟩ = some (.int .u32 0) := cell_later hq (by go_simp)
         have p2 : w0.cell? ⟨w.heap.size + 1 + 1, 0, none⟩ = some (.int .u32 so) := cell_later hq (by go_simp)
         have p3 : w0.cell? ⟨w.heap.size + 1 + 1, 1, none⟩ = some (.int .u32 sl) := cell_later hq (by go_simp)
         have pf0 : w0.frozen? ⟨w.heap.size, 0, none⟩ = false := (hq.frozen (p := ⟨w.heap.size, 0, none⟩) (by simp <;> omega)).trans (by go_simp)
         have pf1 : w0.frozen? ⟨w.heap.size, 1, none⟩ = false := (hq.frozen (p := ⟨w.heap.size, 1, none⟩) (by simp <;> omega)).trans (by go_simp)
         have pf2 : w0.frozen? ⟨w.heap.size + 1 + 1, 0, none⟩ = false := (hq.frozen (p := ⟨w.heap.size + 1 + 1, 0, none⟩) (by simp <;> omega)).trans (by go_simp)
         have pf3 : w0.frozen? ⟨w.heap.size + 1 + 1, 1, none⟩ = false := (hq.frozen (p := ⟨w.heap.size + 1 + 1, 1, none⟩) (by simp <;> omega)).trans (by go_simp)
         have pc10 : w0.cell? ⟨s, 10, none⟩ = some (.slice none 0 0) := cell_later hq (by go_simp)
         have pc1 : w0.cell? ⟨s, 1, none⟩ = some (.iface 36 (.pointer (some ⟨b, 0, none⟩))) := cell_later hq (by go_simp)
         have pb4 : w0.cell? ⟨b, 4, none⟩ = some (.int .u32 o) := cell_later hq (by go_simp)
         have pb5 : w0.cell? ⟨b, 5, none⟩ = some (.int .u32 lc) := cell_later hq (by go_simp)
         have pb7 : w0.cell? ⟨b, 7, none⟩ = some (.bool br) := cell_later hq (by go_simp)
         have hsz : w.heap.size + 1 + 1 + 1 ≤ w0.heap.size := by have := hq.size; simpa using this
         have HP := Lib.hid hq; clear hq)
      | (go_at_call 15; refine (fcEnd_any b o lc br _ ?_ h0 g0 g1).mono ?_; (focus (exact ⟨by go_simp, by go_simp, by go_simp⟩)); rintro e w1 ⟨rfl, hq⟩
         have q0 : w1.cell? ⟨w.heap.size, 0, none⟩ = some (.int .u32 0) := cell_later hq (by go_simp)
         have q1 : w1.cell? ⟨w.heap.size, 1, none⟩ = some (.int .u32 0) := cell_later hq (by go_simp)
         have q2 : w1.cell? ⟨w.heap.size + 1 + 1, 0, none⟩ = some (.int .u32 (avO so sl 1)) := cell_later hq (by go_simp)
         have q3 : w1.cell? ⟨w.heap.size + 1 + 1, 1, none⟩ = some (.int .u32 (avL so sl 1)) := cell_later hq (by go_simp)
         have qf0 : w1.frozen? ⟨w.heap.size, 0, none⟩ = false := (hq.frozen (p := ⟨w.heap.size, 0, none⟩) (by simp <;> omega)).trans (by go_simp)
         have qf1 : w1.frozen? ⟨w.heap.size, 1, none⟩ = false := (hq.frozen (p := ⟨w.heap.size, 1, none⟩) (by simp <;> omega)).trans (by go_simp)
         have qf2 : w1.frozen? ⟨w.heap.size + 1 + 1, 0, none⟩ = false := (hq.frozen (p := ⟨w.heap.size + 1 + 1, 0, none⟩) (by simp <;> omega)).trans (by go_simp)
         have qf3 : w1.frozen? ⟨w.heap.size + 1 + 1, 1, none⟩ = false := (hq.frozen (p := ⟨w.heap.size + 1 + 1, 1, none⟩) (by simp <;> omega)).trans (by go_simp)
         have qc10 : w1.cell? ⟨s, 10, none⟩ = some (.slice none 0 0) := cell_later hq (by go_simp)
         have HQ := Lib.hid hq; clear hq))
    refine bodyPost_ret (v := posV (avO o lc (kOf br)) (avL o lc (kOf br))) (by simp [results, Try.results14, go_sem, q0, q1]) rfl ⟨rfl, ?_⟩
    have t1 : Below w.heap.size w w0 := by
      refine Below.trans ?_ (HP.out.mono (by simp only [World.size_alloc]; omega))
      repeat (first | exact Below.refl _ _ | apply Below.drew | apply bal)
    have t2 := (t1.setCell (p := ⟨w.heap.size + 1 + 1, 0, none⟩) (by simp only; omega) (.int .u32 (avO so sl 1))).setCell (p := ⟨w.heap.size + 1 + 1, 1, none⟩) (by simp only; omega) (.int .u32 (avL so sl 1))
    have t3 := t2.trans (HQ.out.mono t2.size)
    exact (((t3.setCell (by simp only; omega) _).setCell (by simp only; omega) _).setCell (by simp) _).setCell (by simp) _
theorem stPos_any (s b : Nat) (so sl : Int) (neg : Bool) (w : World) (h : StAt w s b so sl neg) :
    Calls Try.prog 16 #[.pointer (some ⟨s, 0, none⟩)] w fun e w' => e = .returned (posV so sl) ∧ Below w.heap.size w w' := by
  obtain ⟨-, c2, c3, -⟩ := h
  have hz : s < w.heap.size := World.block_lt_of_cell? w _ c2
  go_enter Try.func16, Try.ntmps16
  go_wp2
  exact bodyPost_ret (v := posV so sl) (by simp [results, Try.results16, go_sem]) rfl ⟨rfl, (Below.refl _ _).alloc (Nat.le_refl _) _⟩
theorem fcPos_any (b : Nat) (so sl : Int) (w : World) (c2 : w.cell? ⟨b, 0, none⟩ = some (.int .u32 so)) (c3 : w.cell? ⟨b, 1, none⟩ = some (.int .u32 sl)) :
    Calls Try.prog 17 #[.pointer (some ⟨b, 0, none⟩)] w fun e w' => e = .returned (posV so sl) ∧ Below w.heap.size w w' := by
  have hz : b < w.heap.size := World.block_lt_of_cell? w _ c2
  go_enter Try.func17, Try.ntmps17
  go_wp2
  exact bodyPost_ret (v := posV so sl) (by simp [results, Try.results17, go_sem]) rfl ⟨rfl, (Below.refl _ _).alloc (Nat.le_refl _) _⟩
/-- what ZZstmtOf leaves -/
def NewSt (b : Nat) (so sl : Int) (neg : Bool) (w : World) (e : Ending) (w' : World) : Prop := ∃ s, e = .returned (.pointer (some ⟨s, 0, none⟩)) ∧ StAt w' s b so sl neg ∧ Below w.heap.size w w'
set_option maxHeartbeats 1000000 in
theorem stmtOf_any (b : Nat) (so sl : Int) (neg : Bool) (w : World) :
    Calls Try.prog 13 #[.pointer (some ⟨b, 0, none⟩), posV so sl, .bool neg] w (NewSt b so sl neg w) := by
  go_enter Try.func13, Try.ntmps13
  go_wp2
  go_ret
  exact ⟨w.heap.size + 1, rfl, ⟨by go_simp, by go_simp, by go_simp, by go_simp, by go_simp, by go_simp, by go_simp⟩, by repeat (first | exact Below.refl _ _ | apply Below.drew | apply bal)⟩
end Go.Proofs.Ythfjbbeecoeenaa
