/- The contract of (*Parser).reset once more, with the word that no other block turns. Conditions: as in Reset. -/
import Derived.Test.YtknilfihibmgdaaReset
namespace Go.Proofs.Ytknilfihibmgdaa
open Go.RowKit

/-- at most block b turns -/
def Only (b : Nat) (w w' : World) : Prop := ∀ k, k ≠ b → w'.heap[k]? = w.heap[k]?
theorem far {w w' : World} {b k i : Nat} {u : Value} (h : k ≠ b) (e : w'.heap[k]? = w.heap[k]?) : (w'.setCell ⟨b, i, none⟩ u).heap[k]? = w.heap[k]? := (Below.heap_setCell w' ⟨b, i, none⟩ u k h).trans e
/-- what reset leaves -/
def WipedO (w : World) (b : Nat) (hA : Option Addr) (hc : Nat) (C : Array Value) (e : Ending) (w' : World) : Prop :=
  e = .returned (.tuple #[]) ∧ PBlk w' b (wiped b hA hc C) ∧ (∀ B, B ≤ b → Below B w w') ∧ Only b w w'
set_option maxRecDepth 100000 in
set_option maxHeartbeats 4000000 in
theorem reset_only (b : Nat) (hA : Option Addr) (hn hc : Nat) (C : Array Value) (w : World) (hb : PBlk w b C) (hC : C.size = 2088) (hh : C[26]? = some (.slice hA hn hc)) (_hle : hn ≤ hc) (_hm : hc ≤ 9223372036854775807) :
    Calls Try.prog 52 #[.pointer (some ⟨b, 0, none⟩)] w (WipedO w b hA hc C) := by
  have f := hb.free
  obtain ⟨v10, c10⟩ := hb.some 10 (by omega)
  obtain ⟨v11, c11⟩ := hb.some 11 (by omega)
  obtain ⟨v18, c18⟩ := hb.some 18 (by omega)
  obtain ⟨v1, c1⟩ := hb.some 1 (by omega)
  obtain ⟨v2, c2⟩ := hb.some 2 (by omega)
  obtain ⟨v12, c12⟩ := hb.some 12 (by omega)
  obtain ⟨v13, c13⟩ := hb.some 13 (by omega)
  obtain ⟨v14, c14⟩ := hb.some 14 (by omega)
  obtain ⟨v3, c3⟩ := hb.some 3 (by omega)
  obtain ⟨v4, c4⟩ := hb.some 4 (by omega)
  obtain ⟨v7, c7⟩ := hb.some 7 (by omega)
  obtain ⟨v8, c8⟩ := hb.some 8 (by omega)
  obtain ⟨v9, c9⟩ := hb.some 9 (by omega)
  obtain ⟨v17, c17⟩ := hb.some 17 (by omega)
  obtain ⟨v24, c24⟩ := hb.some 24 (by omega)
  obtain ⟨v29, c29⟩ := hb.some 29 (by omega)
  obtain ⟨v22, c22⟩ := hb.some 22 (by omega)
  have c26 := (hb.cell 26).trans hh
  obtain ⟨v25, c25⟩ := hb.some 25 (by omega)
  obtain ⟨v27, c27⟩ := hb.some 27 (by omega)
  obtain ⟨v28, c28⟩ := hb.some 28 (by omega)
  obtain ⟨v30, c30⟩ := hb.some 30 (by omega)
  obtain ⟨v31, c31⟩ := hb.some 31 (by omega)
  obtain ⟨v35, c35⟩ := hb.some 35 (by omega)
  obtain ⟨v36, c36⟩ := hb.some 36 (by omega)
  obtain ⟨v37, c37⟩ := hb.some 37 (by omega)
  obtain ⟨v38, c38⟩ := hb.some 38 (by omega)
  obtain ⟨v87, c87⟩ := hb.some 2087 (by omega)
  have HB := Lib.hid hb
  have HC := Lib.hid hC
  clear hb hC hh
  go_enter Try.func52, Try.ntmps52
  go_wp2
  have hP := ((((((((((((((((((((((((HB.out.put 10 (.int .u32 0)).put 11 (.string ⟨#[]⟩)).put 18 (.int .i64 0)).put 1 (.slice none 0 0)).put 2 (.int .u64 0)).put 12 (.int .i64 0)).put 13 (.int .i64 1)).put 14 (.int .i64 1)).put 3 (.int .i32 0)).put 4 (.int .i64 0)).put 7 .nilIface).put 8 .nilIface).put 9 (.bool false)).put 17 (.int .u32 1)).put 24 (.bool false)).put 29 (.int .i64 0)).put 22 (.int .i64 0)).put 26 (.slice hA 0 hc)).put 25 (.int .i64 0)).put 27 (.slice none 0 0)).put 28 (.bool false)).put 30 (.int .i64 0)).put 31 (.int .i64 0)).put 35 (.slice none 0 0))
  have hL : ∀ B, B ≤ b → Below B w ((((((((((((((((((((((((w.setCell ⟨b, 10, none⟩ (.int .u32 0)).setCell ⟨b, 11, none⟩ (.string ⟨#[]⟩)).setCell ⟨b, 18, none⟩ (.int .i64 0)).setCell ⟨b, 1, none⟩ (.slice none 0 0)).setCell ⟨b, 2, none⟩ (.int .u64 0)).setCell ⟨b, 12, none⟩ (.int .i64 0)).setCell ⟨b, 13, none⟩ (.int .i64 1)).setCell ⟨b, 14, none⟩ (.int .i64 1)).setCell ⟨b, 3, none⟩ (.int .i32 0)).setCell ⟨b, 4, none⟩ (.int .i64 0)).setCell ⟨b, 7, none⟩ .nilIface).setCell ⟨b, 8, none⟩ .nilIface).setCell ⟨b, 9, none⟩ (.bool false)).setCell ⟨b, 17, none⟩ (.int .u32 1)).setCell ⟨b, 24, none⟩ (.bool false)).setCell ⟨b, 29, none⟩ (.int .i64 0)).setCell ⟨b, 22, none⟩ (.int .i64 0)).setCell ⟨b, 26, none⟩ (.slice hA 0 hc)).setCell ⟨b, 25, none⟩ (.int .i64 0)).setCell ⟨b, 27, none⟩ (.slice none 0 0)).setCell ⟨b, 28, none⟩ (.bool false)).setCell ⟨b, 30, none⟩ (.int .i64 0)).setCell ⟨b, 31, none⟩ (.int .i64 0)).setCell ⟨b, 35, none⟩ (.slice none 0 0)) := fun B hB => ((((((((((((((((((((((((Below.refl B w).setCell hB _).setCell hB _).setCell hB _).setCell hB _).setCell hB _).setCell hB _).setCell hB _).setCell hB _).setCell hB _).setCell hB _).setCell hB _).setCell hB _).setCell hB _).setCell hB _).setCell hB _).setCell hB _).setCell hB _).setCell hB _).setCell hB _).setCell hB _).setCell hB _).setCell hB _).setCell hB _).setCell hB _
  have hO : Only b w ((((((((((((((((((((((((w.setCell ⟨b, 10, none⟩ (.int .u32 0)).setCell ⟨b, 11, none⟩ (.string ⟨#[]⟩)).setCell ⟨b, 18, none⟩ (.int .i64 0)).setCell ⟨b, 1, none⟩ (.slice none 0 0)).setCell ⟨b, 2, none⟩ (.int .u64 0)).setCell ⟨b, 12, none⟩ (.int .i64 0)).setCell ⟨b, 13, none⟩ (.int .i64 1)).setCell ⟨b, 14, none⟩ (.int .i64 1)).setCell ⟨b, 3, none⟩ (.int .i32 0)).setCell ⟨b, 4, none⟩ (.int .i64 0)).setCell ⟨b, 7, none⟩ .nilIface).setCell ⟨b, 8, none⟩ .nilIface).setCell ⟨b, 9, none⟩ (.bool false)).setCell ⟨b, 17, none⟩ (.int .u32 1)).setCell ⟨b, 24, none⟩ (.bool false)).setCell ⟨b, 29, none⟩ (.int .i64 0)).setCell ⟨b, 22, none⟩ (.int .i64 0)).setCell ⟨b, 26, none⟩ (.slice hA 0 hc)).setCell ⟨b, 25, none⟩ (.int .i64 0)).setCell ⟨b, 27, none⟩ (.slice none 0 0)).setCell ⟨b, 28, none⟩ (.bool false)).setCell ⟨b, 30, none⟩ (.int .i64 0)).setCell ⟨b, 31, none⟩ (.int .i64 0)).setCell ⟨b, 35, none⟩ (.slice none 0 0)) := fun k hk => far hk (far hk (far hk (far hk (far hk (far hk (far hk (far hk (far hk (far hk (far hk (far hk (far hk (far hk (far hk (far hk (far hk (far hk (far hk (far hk (far hk (far hk (far hk (far hk (rfl))))))))))))))))))))))))
  generalize ((((((((((((((((((((((((w.setCell ⟨b, 10, none⟩ (.int .u32 0)).setCell ⟨b, 11, none⟩ (.string ⟨#[]⟩)).setCell ⟨b, 18, none⟩ (.int .i64 0)).setCell ⟨b, 1, none⟩ (.slice none 0 0)).setCell ⟨b, 2, none⟩ (.int .u64 0)).setCell ⟨b, 12, none⟩ (.int .i64 0)).setCell ⟨b, 13, none⟩ (.int .i64 1)).setCell ⟨b, 14, none⟩ (.int .i64 1)).setCell ⟨b, 3, none⟩ (.int .i32 0)).setCell ⟨b, 4, none⟩ (.int .i64 0)).setCell ⟨b, 7, none⟩ .nilIface).setCell ⟨b, 8, none⟩ .nilIface).setCell ⟨b, 9, none⟩ (.bool false)).setCell ⟨b, 17, none⟩ (.int .u32 1)).setCell ⟨b, 24, none⟩ (.bool false)).setCell ⟨b, 29, none⟩ (.int .i64 0)).setCell ⟨b, 22, none⟩ (.int .i64 0)).setCell ⟨b, 26, none⟩ (.slice hA 0 hc)).setCell ⟨b, 25, none⟩ (.int .i64 0)).setCell ⟨b, 27, none⟩ (.slice none 0 0)).setCell ⟨b, 28, none⟩ (.bool false)).setCell ⟨b, 30, none⟩ (.int .i64 0)).setCell ⟨b, 31, none⟩ (.int .i64 0)).setCell ⟨b, 35, none⟩ (.slice none 0 0)) = W at *
  have g := hP.free
  have d35 : ∃ v, W.cell? ⟨b, 35, none⟩ = some v := hP.some 35 (by have := HC.out; simp; omega)
  have d36 : ∃ v, W.cell? ⟨b, 36, none⟩ = some v := hP.some 36 (by have := HC.out; simp; omega)
  have d37 : ∃ v, W.cell? ⟨b, 37, none⟩ = some v := hP.some 37 (by have := HC.out; simp; omega)
  have d38 : ∃ v, W.cell? ⟨b, 38, none⟩ = some v := hP.some 38 (by have := HC.out; simp; omega)
  have d87 : ∃ v, W.cell? ⟨b, 2087, none⟩ = some v := hP.some 2087 (by have := HC.out; simp; omega)
  obtain ⟨u35, d35⟩ := d35
  obtain ⟨u36, d36⟩ := d36
  obtain ⟨u37, d37⟩ := d37
  obtain ⟨u38, d38⟩ := d38
  obtain ⟨u87, d87⟩ := d87
  have HP := Lib.hid hP
  have HL := Lib.hid hL
  have HO := Lib.hid hO
  clear hP hL hO f c1 c2 c3 c4 c7 c8 c9 c10 c11 c12 c13 c14 c17 c18 c22 c24 c25 c26 c27 c28 c29 c30 c31 c35 c36 c37 c38 c87
  go_region
  all_goals
    go_wp2
    go_end0
    refine ⟨rfl, (((((HP.out.put 35 (.slice none 0 0)).put 36 (.pointer (some ⟨b, 35, none⟩))).put 37 (.slice none 0 0)).put 38 (.slice none 0 0)).put 2087 (.slice none 0 0)).drew, fun B hB => (((((((HL.out B hB).setCell hB _).setCell hB _).setCell hB _).setCell hB _).setCell hB _).drew), fun k hk => ?_⟩
    exact far (w' := ((((W.setCell ⟨b, 35, none⟩ _).setCell ⟨b, 36, none⟩ _).setCell ⟨b, 37, none⟩ _).setCell ⟨b, 38, none⟩ _)) hk (far hk (far hk (far hk (far hk (HO.out k hk)))))
set_option maxHeartbeats 1000000 in
theorem zzReset_only (b : Nat) (hA : Option Addr) (hn hc : Nat) (C : Array Value) (w : World) (hb : PBlk w b C) (hC : C.size = 2088) (hh : C[26]? = some (.slice hA hn hc)) (hle : hn ≤ hc) (hm : hc ≤ 9223372036854775807) :
    Calls Try.prog 28 #[.pointer (some ⟨b, 0, none⟩)] w (WipedO w b hA hc C) := by
  have HB := Lib.hid hb
  have HC := Lib.hid hC
  have HH := Lib.hid hh
  clear hb hC hh
  go_enter Try.func28, Try.ntmps28
  go_wp2_with (go_at_call 52; refine (reset_only b hA hn hc C _ HB.out HC.out HH.out hle hm).mono ?_; rintro e w' ⟨rfl, hq⟩
               have HQ := Lib.hid hq; clear hq)
  go_end0
  exact ⟨rfl, HQ.out⟩
end Go.Proofs.Ytknilfihibmgdaa
