/- The contract of zzBuildDirty. Conditions: the counts lie in 0..4096. -/
import Derived.Test.YtknilfihibmgdaaDirtyD
namespace Go.Proofs.Ytknilfihibmgdaa
namespace DT
open Go.RowKit

/-- the parser that zzBuildDirty makes -/
def Made (hn : Bool) (sp : Bool) (lb rx : Int) (rf kc : Bool) (lg rm : Int) (sA : Option Addr) (sN sC : Nat) (w : World) (e : Ending) (w' : World) : Prop :=
  ∃ b C hA hN hC, e = .returned (.pointer (some ⟨b, 0, none⟩)) ∧ w.heap.size ≤ b ∧ PBlk w' b C ∧ Kept C hA hN hC sp lb rx rf kc lg rm sA sN sC ∧ hA.isNone = hn ∧ hN ≤ hC ∧ hC ≤ 9223372036854775807 ∧ Below w.heap.size w w'
set_option maxRecDepth 100000 in
set_option maxHeartbeats 8000000 in
theorem build_any (d : Drt) (kc : Bool) (lg rm : Int) (sA : Option Addr) (sN sC : Nat) (w : World) (hc : COk d) :
    Calls Try.prog 42 #[.agg d.cells, .bool kc, .int .i64 lg, .int .i64 rm, .slice sA sN sC] w (Made d.hnil d.spaced d.lbe d.rop d.rfp kc lg rm sA sN sC w) := by
  obtain ⟨⟨a1, a2⟩, ⟨a3, a4⟩, ⟨a5, a6⟩, a7, a8⟩ := hc
  obtain ⟨X1, hX1⟩ := mk_any Try.underlying100 (by kernel_rfl) d.nhd a1 a2
  obtain ⟨X2, hX2⟩ := mk_any Try.underlying30 (by kernel_rfl) d.nac a3 a4
  obtain ⟨X3, hX3⟩ := mk_any Try.underlying102 (by kernel_rfl) d.nlb a5 a6
  obtain ⟨be, hbe⟩ : ∃ x, d.errSet = x := ⟨_, rfl⟩
  obtain ⟨br, hbr⟩ : ∃ x, d.readErrSet = x := ⟨_, rfl⟩
  obtain ⟨hn, hhn⟩ : ∃ x, d.hnil = x := ⟨_, rfl⟩
  have e0 : d.cells[0]? = some (.int .u32 d.tok) := rfl
  have e1 : d.cells[1]? = some (.string d.val) := rfl
  have e2 : d.cells[2]? = some (.int .i64 d.eql) := rfl
  have e3 : d.cells[3]? = some (.slice d.bsA d.bsN d.bsC) := rfl
  have e4 : d.cells[4]? = some (.int .u64 d.bsp) := rfl
  have e5 : d.cells[5]? = some (.int .i64 d.offs) := rfl
  have e6 : d.cells[6]? = some (.int .i64 d.line) := rfl
  have e7 : d.cells[7]? = some (.int .i64 d.col) := rfl
  have e8 : d.cells[8]? = some (.int .i32 d.r) := rfl
  have e9 : d.cells[9]? = some (.int .i64 d.w) := rfl
  have e10 : d.cells[10]? = some (.bool be) := by rw [← hbe]; rfl
  have e11 : d.cells[11]? = some (.bool br) := by rw [← hbr]; rfl
  have e12 : d.cells[12]? = some (.bool d.readEOF) := rfl
  have e13 : d.cells[13]? = some (.int .u32 d.quote) := rfl
  have e14 : d.cells[14]? = some (.bool d.forbid) := rfl
  have e15 : d.cells[15]? = some (.int .i64 d.opn) := rfl
  have e16 : d.cells[16]? = some (.int .i64 d.recd) := rfl
  have e17 : d.cells[17]? = some (.bool hn) := by rw [← hhn]; rfl
  have e18 : d.cells[18]? = some (.int .i64 d.nhd) := rfl
  have e19 : d.cells[19]? = some (.int .i64 d.bur) := rfl
  have e20 : d.cells[20]? = some (.slice d.hsA d.hsN d.hsC) := rfl
  have e21 : d.cells[21]? = some (.bool d.pdoc) := rfl
  have e22 : d.cells[22]? = some (.int .i64 d.obq) := rfl
  have e23 : d.cells[23]? = some (.int .i64 d.obd) := rfl
  have e24 : d.cells[24]? = some (.int .i64 d.nac) := rfl
  have e25 : d.cells[25]? = some (.int .i64 d.nlb) := rfl
  have e26 : d.cells[26]? = some (.int .i64 d.nwb) := rfl
  have e27 : d.cells[27]? = some (.slice d.lbA d.lbN d.lbC) := rfl
  have e28 : d.cells[28]? = some (.bool d.spaced) := rfl
  have e29 : d.cells[29]? = some (.int .i64 d.lbe) := rfl
  have e30 : d.cells[30]? = some (.int .i64 d.rop) := rfl
  have e31 : d.cells[31]? = some (.bool d.rfp) := rfl
  rw [hhn]
  clear hbe hbr hhn
  cases hn
  all_goals
    go_enter Try.func42, Try.ntmps42
    go_wp2_with (first
      | (go_at_call 55
         refine (dirty_any d _ _ _ _ _ _ _ _ _ _ _ _ _ _ _ _ a7 a8).mono ?_; rintro e w1 ⟨b, C, rfl, hlb, hP, hK, hB⟩
         have hlt : w.heap.size < b := by simp at hlb; omega
         have c10 : w1.cell? ⟨w.heap.size, 10, none⟩ = some (.bool be) := cell_later hB (by go_simp)
         have c11 : w1.cell? ⟨w.heap.size, 11, none⟩ = some (.bool br) := cell_later hB (by go_simp)
         have HP := Lib.hid hP; have HK := Lib.hid hK
         have HB : Hid (Below w.heap.size w w1) := by
           have h0 : Below w.heap.size w (w.alloc (.cells d.cells 70)) := (Below.refl _ _).alloc (Nat.le_refl _) _
           first
             | exact ((((h0.alloc h0.size _).alloc (by simp; omega) _).alloc (by simp; omega) _).trans (hB.mono (by simp; omega)))
             | exact (((h0.alloc h0.size _).alloc (by simp; omega) _).trans (hB.mono (by simp; omega)))
         clear hP hK hB hlb)
      | (go_at_call 56
         refine (setErr_any b C _ HP.out HK.out.1).mono ?_; rintro e w2 ⟨v2, rfl, hP, hB⟩
         have hb2 := hB b (Nat.le_refl _)
         have c11' : w2.cell? ⟨w.heap.size, 11, none⟩ = some (.bool br) := (hb2.cell (p := ⟨w.heap.size, 11, none⟩) hlt).trans c11
         have HP2 := Lib.hid hP; have HK2 := Lib.hid (HK.out.put (.inl rfl) v2)
         have HB2 := Lib.hid (HB.out.trans (hB _ (Nat.le_of_lt hlt)))
         clear hP hB hb2 HP HK HB c10 c11)
      | (go_at_call 57
         refine (setRead_any b _ _ HP2.out HK2.out.1).mono ?_; rintro e w3 ⟨v3, rfl, hP, hB⟩
         have HP3 := Lib.hid hP; have HK3 := Lib.hid (HK2.out.put (.inr rfl) v3)
         have HB3 := Lib.hid (HB2.out.trans (hB _ (Nat.le_of_lt hlt)))
         clear hP hB HP2 HK2 HB2)
      | (go_at_call 57
         refine (setRead_any b _ _ HP.out HK.out.1).mono ?_; rintro e w3 ⟨v3, rfl, hP, hB⟩
         have HP3 := Lib.hid hP; have HK3 := Lib.hid (HK.out.put (.inr rfl) v3)
         have HB3 := Lib.hid (HB.out.trans (hB _ (Nat.le_of_lt hlt)))
         clear hP hB HP HK HB))
    all_goals
      go_ret
      first
        | exact ⟨b, _, _, _, _, rfl, Nat.le_of_lt hlt, HP3.out, HK3.out, rfl, Nat.le_refl _, by omega, HB3.out⟩
        | exact ⟨b, _, _, _, _, rfl, Nat.le_of_lt hlt, HP2.out, HK2.out, rfl, Nat.le_refl _, by omega, HB2.out⟩
        | exact ⟨b, _, _, _, _, rfl, Nat.le_of_lt hlt, HP.out, HK.out, rfl, Nat.le_refl _, by omega, HB.out⟩
end DT
end Go.Proofs.Ytknilfihibmgdaa
