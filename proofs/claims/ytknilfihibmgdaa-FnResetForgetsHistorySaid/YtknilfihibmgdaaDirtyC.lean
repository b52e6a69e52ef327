/- The contract of zzDirtyTooBig at a dirty state. Conditions: the cells that the contract names. -/
import Derived.Test.YtknilfihibmgdaaDirtyB
namespace Go.Proofs.Ytknilfihibmgdaa
namespace DT
open Go.RowKit

set_option maxRecDepth 100000 in
set_option maxHeartbeats 4000000 in
theorem big_any (d : Drt) (sA : Option Addr) (sN sC : Nat) (w : World) (hh : HRow w d.hsA d.hsN) (hn : d.hsN ≤ 9223372036854775807) :
    Calls Try.prog 40 #[.agg d.cells, .slice sA sN sC] w (SomeF (COk d) w) := by
  have HB := Lib.hid ((Below.refl w.heap.size w).alloc (Nat.le_refl _) (.cells d.cells 70))
  have HH := Lib.hid (hh.below HB.out)
  have HK := Lib.hid (Bk.new w 70 d.cells)
  clear hh
  have e1 : d.cells[1]? = some (.string d.val) := rfl
  have e3 : d.cells[3]? = some (.slice d.bsA d.bsN d.bsC) := rfl
  have e27 : d.cells[27]? = some (.slice d.lbA d.lbN d.lbC) := rfl
  have e20 : d.cells[20]? = some (.slice d.hsA d.hsN d.hsC) := rfl
  go_enter Try.func40, Try.ntmps40
  go_wp2
  all_goals try (go_ret; exact ⟨true, rfl, (fun h => by cases h), HB.out⟩)
  have c20 := (HK.out.cell 20).trans e20
  have c18 : (w.alloc (.cells d.cells 70)).cell? ⟨w.heap.size, 18, none⟩ = some (.int .i64 d.nhd) := HK.out.cell 18
  have c24 : (w.alloc (.cells d.cells 70)).cell? ⟨w.heap.size, 24, none⟩ = some (.int .i64 d.nac) := HK.out.cell 24
  have c25 : (w.alloc (.cells d.cells 70)).cell? ⟨w.heap.size, 25, none⟩ = some (.int .i64 d.nlb) := HK.out.cell 25
  have c26 : (w.alloc (.cells d.cells 70)).cell? ⟨w.heap.size, 26, none⟩ = some (.int .i64 d.nwb) := HK.out.cell 26
  clear HK e1 e3 e20 e27
  generalize w.alloc (.cells d.cells 70) = W at *
  go_loop [5, 6] (fun z i => Rel4 d.hsN z i) (fun _ i => d.hsN - (intOf i).toNat)
  case atStart => exact ⟨0, _, Nat.zero_le _, rfl, rfl⟩
  case round =>
    obtain ⟨k, zz, hk, rfl, rfl⟩ := hrel
    by_cases hlt : k < d.hsN
    · obtain ⟨x, A, N, C, f, hx, hc, hr, hN⟩ := HH.out k hlt
      have i0 : (0 : Int) ≤ (k : Int) := by omega
      have i1 : (k : Int) < (d.hsN : Int) := by omega
      clear hr
      go_wp2
      all_goals first
        | (go_ret; exact ⟨true, rfl, (fun h => by cases h), HB.out⟩)
        | (go_round
           case rel => exact ⟨k + 1, _, by omega, rfl, by go_num⟩
           case measure => simp [intOf]; omega)
    · have hkn : ¬ (k : Int) < (d.hsN : Int) := by omega
      go_wp2
      all_goals first
        | (go_ret; exact ⟨true, rfl, (fun h => by cases h), HB.out⟩)
        | (go_ret; exact ⟨false, rfl, (fun _ => by unfold COk; omega), HB.out⟩)
end DT
end Go.Proofs.Ytknilfihibmgdaa
