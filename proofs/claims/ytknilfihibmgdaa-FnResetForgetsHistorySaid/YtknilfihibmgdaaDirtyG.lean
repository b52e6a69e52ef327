/- The law's walk, told of the dirty state by its fields. Conditions: the rows that the contract names. -/
import Derived.Test.YtknilfihibmgdaaDirtyF
import Derived.Test.YtknilfihibmgdaaResetB
import Derived.Outline
import Derived.Deep.WholeRow
import Derived.Deep.RegionHeld3
namespace Go.Proofs.Ytknilfihibmgdaa
namespace DT
open Go.RowKit

/-- a struct that lies in a block known whole may be read first -/
theorem yieldsIf_load_row {P : Program} {ops : Array Oper} {S : World → Prop} {op : Oper} {a : Act} (hw : Region.wanted op (yielded ops a.tmps) = true) (ty : TypeId) (x : Operand) (ho : op.op = .load ty x)
    (g : Nat) (hx : a.eval x = .pointer (some ⟨g, 0, none⟩)) (cs : Array Value) (t : TypeId) (fr : Nat × Nat) (d : TypeDesc) (hS : ∀ w, S w → w.heap[g]? = some (.cells cs t fr))
    (hu : P.underlying ty = some d) (hd : (match d with | .struct _ | .array _ _ => true | _ => false) = true) (hi : (P.info? ty).map (·.size) = some cs.size) : YieldsIf P ops S op (.agg cs) a :=
  .inl ⟨hw, fun w hw' => by
    unfold execOp
    simp only [ho, hx, Instr.loadAt, Instr.sureAddr, Sem.run_bind, Sem.run_pure, Result.andThen_ok, run_loadVar_row w g t ty cs fr d (hS w hw') hu hd hi]⟩
/-- the cells of a new state -/
def zst : Array Value := #[.int .u32 0, .string ⟨#[]⟩, .int .i64 0, .bool false, .int .u64 0, .int .i64 0, .int .i64 0, .int .i64 0, .int .i32 0, .int .i64 0, .bool false, .bool false, .bool false, .int .u32 0, .bool false, .int .i64 0, .int .i64 0, .int .i64 0, .bool false, .int .i64 0, .bool false, .bool false, .int .i64 0, .int .i64 0, .bool false, .bool false, .bool false, .bool false, .bool false, .bool false, .int .i64 0, .int .i64 0, .bool false, .bool false, .int .i64 0, .int .i64 0, .string ⟨#[]⟩, .bool false]
set_option maxRecDepth 100000 in
set_option maxHeartbeats 8000000 in
theorem law_any (d : Drt) (kc : Bool) (lg rm : Int) (sA : Option Addr) (sN sC : Nat) (fb fl : Nat → Int) (l : List UInt8) (w : World)
    (hb : BRow w d.bsA d.bsN d.bsC fb) (hlb : BRow w d.lbA d.lbN d.lbC fl) (hh : HRow w d.hsA d.hsN) (hh0 : d.hsA = none → d.hsN = 0 ∧ d.hsC = 0) (hhn : d.hsN ≤ 9223372036854775807)
    (hs : BRow w sA sN sC (fun j => ((l.getD j 0).toNat : Int))) (hl : l.length = sN) :
    Calls Try.prog 9 #[.agg d.cells, .bool kc, .int .i64 lg, .int .i64 rm, .slice sA sN sC] w fun e w' => e = .returned (.bool true) ∧ Below w.heap.size w w' := by
  have HBR := Lib.hid hb
  have HLR := Lib.hid hlb
  have HHR := Lib.hid hh
  have HH0 := Lib.hid hh0
  have HST := Lib.hid hs
  have HLL := Lib.hid hl
  clear hb hlb hh hh0 hs hl
  have A0 := Lib.hid ((Below.refl w.heap.size w).alloc (Nat.le_refl _) (.cells d.cells 70))
  have K0 := Lib.hid (Bk.new w 70 d.cells)
  go_enter Try.func9, Try.ntmps9
  go_wp2_with (first
    | (with_reducible refine wpList_load_row rfl 70 _ rfl w.heap.size rfl 70 d.cells (0, 0) _ ?_ Try.underlying70 ?_ ?_ ?_
       · first | exact K0.out | exact K1.out | exact K2.out
       · rfl
       · exact sizeD)
    | (go_at_call 39
       refine (bytes_any d kc lg rm sA sN sC _ (HHR.out.below A0.out) hhn).mono ?_; rintro e w1 ⟨x, rfl, hx, hb1⟩
       have A1 := Lib.hid (A0.out.trans (hb1.mono A0.out.size))
       have K1 := Lib.hid (K0.out.below hb1 K0.out.lt)
       have HX := Lib.hid hx
       clear hb1 hx
       cases x)
    | (go_at_call 40
       have HOK := Lib.hid (HX.out rfl)
       have A0' := A0
       refine (big_any d sA sN sC _ (HHR.out.below A1.out) hhn).mono ?_; rintro e w2 ⟨x, rfl, hx, hb1⟩
       have A2 := Lib.hid (A1.out.trans (hb1.mono A1.out.size))
       have K2 := Lib.hid (K1.out.below hb1 K1.out.lt)
       have HC := Lib.hid hx
       clear hb1 hx A0 K0 HX
       cases x)
    | (go_at_call 41
       refine (copy_any d fb fl _ (HBR.out.below A2.out) HOK.out.1 (HLR.out.below A2.out) HOK.out.2.1 (HHR.out.below A2.out) HH0.out ((HOK.out.2.2.2.2.back A0'.out).below HHR.out A2.out) HOK.out.2.2.2.1).mono ?_
       rintro e w3 ⟨x1, x2, x3, x4, x5, x6, x7, x8, x9, rfl, hb1⟩
       have A3 := Lib.hid (A2.out.trans (hb1.mono A2.out.size))
       have K3 := Lib.hid (K2.out.below hb1 K2.out.lt)
       have HC3 : Hid (COk { d with bsA := x1, bsN := x2, bsC := x3, lbA := x4, lbN := x5, lbC := x6, hsA := x7, hsN := x8, hsC := x9 }) := HC.out rfl
       obtain ⟨d', hd⟩ : ∃ d', ({ d with bsA := x1, bsN := x2, bsC := x3, lbA := x4, lbN := x5, lbC := x6, hsA := x7, hsN := x8, hsC := x9 } : Drt) = d' := ⟨_, rfl⟩
       rw [hd] at HC3
       rw [hd]
       clear hb1 hd K2 A1 K1 HC HBR HLR HHR HH0)
    | (with_reducible refine wpList_store_row rfl 70 _ _ rfl w.heap.size d'.cells rfl rfl 70 d.cells ?_ ?_ ?_ ?_ ?_
       · exact K3.out
       · exact sizeD
       · rfl
       · exact Drt.one _)
    | (go_at_call 26
       have K4 := Lib.hid (K3.out.row d'.cells)
       have A4 := Lib.hid (below_setRow A3.out (Nat.le_refl _) d'.cells)
       refine (clone_any sA sN sC _ _ (HST.out.below A4.out) HOK.out.2.2.1).mono ?_; rintro e w5 ⟨y1, rfl, hy1, hs1, hb1⟩
       have S1 := Lib.hid hs1
       have Y1 := Lib.hid hy1
       have K5 := Lib.hid (K4.out.below hb1 K4.out.lt)
       have A5 := Lib.hid (A4.out.trans (hb1.mono A4.out.size))
       clear hb1 hs1 hy1 K3 A3 K4 A4 A2)
    | (go_at_call 26
       refine (clone_any sA sN sC _ _ (HST.out.below A5.out) HOK.out.2.2.1).mono ?_; rintro e w6 ⟨y2, rfl, hy2, hs2, hb1⟩
       have S2 := Lib.hid hs2
       have Y2 := Lib.hid hy2
       have S1' := Lib.hid (S1.out.below hb1)
       have K6 := Lib.hid (K5.out.below hb1 K5.out.lt)
       have A6 := Lib.hid (A5.out.trans (hb1.mono A5.out.size))
       clear hb1 hs2 hy2 K5 A5 S1 HST HOK)
    | (with_reducible refine wpList_load_row rfl 70 _ rfl w.heap.size rfl 70 d'.cells (0, 0) _ ?_ Try.underlying70 ?_ ?_ ?_
       · exact K6.out
       · rfl
       · exact sizeD)
    | (go_at_call 42
       refine (build_any d' kc lg rm y1 sN sN _ HC3.out).mono ?_; rintro e w7 ⟨b1, C1, hA, hN, hC, rfl, hle1, hp1, hk1, hnil, hNC, h63, hb1⟩
       have Q7 := Lib.hid hb1
       have P7 := Lib.hid hp1
       have KP := Lib.hid hk1
       have NL := Lib.hid hnil
       have k7 := K6.out.below hb1 K6.out.lt
       have c28 := (k7.cell 28).trans (show d'.cells[28]? = some (.bool d'.spaced) from rfl)
       have c29 := (k7.cell 29).trans (show d'.cells[29]? = some (.int .i64 d'.lbe) from rfl)
       have c30 := (k7.cell 30).trans (show d'.cells[30]? = some (.int .i64 d'.rop) from rfl)
       have c31 := (k7.cell 31).trans (show d'.cells[31]? = some (.bool d'.rfp) from rfl)
       clear hb1 hp1 hk1 hnil k7 HC3)
    | (go_at_call 43
       refine (conf_any kc lg rm y2 sN sN d'.spaced d'.lbe d'.rop d'.rfp _).mono ?_; rintro e w8 ⟨b2, C2, rfl, hle2, hp2, hk2, hb1⟩
       have hlt : b1 < b2 := Nat.lt_of_lt_of_le P7.out.lt hle2
       have Q8 := Lib.hid (Q7.out.trans (hb1.mono Q7.out.size))
       have P8 := Lib.hid (P7.out.below hb1 P7.out.lt)
       have R8 := Lib.hid hp2
       have KR := Lib.hid hk2
       clear hb1 hp2 hk2 c28 c29 c30 c31 P7 Q7)
    | (go_at_call 28
       refine (zzReset_only b1 hA hN hC C1 _ P8.out KP.out.1 KP.out.2.1 hNC h63).mono ?_; rintro e w9 ⟨rfl, hp, hB, hO⟩
       have P9 := Lib.hid hp
       have R9 : Hid (PBlk w9 b2 C2) := (hO b2 (by omega)).trans R8.out
       have Q9 := Lib.hid (Q8.out.trans (hB _ hle1))
       clear hp hB hO P8 R8 Q8)
    | (go_at_call 28
       refine (zzReset_only b2 none 0 0 C2 _ R9.out KR.out.1 KR.out.2.1 (Nat.le_refl _) (by omega)).mono ?_; rintro e w10 ⟨rfl, hp, hB, hO⟩
       have R10 := Lib.hid hp
       have P10 : Hid (PBlk w10 b1 (wiped b1 hA hC C1)) := (hO b1 (by omega)).trans P9.out
       have Q10 := Lib.hid (Q9.out.trans (hB _ (by omega)))
       clear hp hB hO P9 R9 Q9)
    | (go_at_call 44
       refine (state_any b1 hA hC d'.spaced d'.lbe d'.rop d'.rfp kc lg rm y1 sN sN _ l _ P10.out (clean_of b1 KP.out) (S1'.out.below Q10.out) HLL.out).mono ?_; rintro e w11 ⟨rfl, hb1⟩
       rw [NL.out, Y1.out]
       have P11 := Lib.hid (P10.out.below hb1 P10.out.lt)
       have R11 := Lib.hid (R10.out.below hb1 R10.out.lt)
       have Q11 := Lib.hid (Q10.out.trans (hb1.mono Q10.out.size))
       clear hb1 P10 R10 Q10)
    | (with_reducible refine wpList_store_row rfl 77 _ _ rfl w11.heap.size (stc d'.hnil d'.spaced d'.lbe d'.rop d'.rfp kc lg rm ⟨l.toArray⟩ sA.isNone) ?_ ?_ 77 zst ?_ ?_ ?_ ?_ ?_
       · rfl
       · rfl
       · exact Bk.new w11 77 zst
       · exact sizeS
       · rfl
       · exact stc_one _ _ _ _ _ _ _ _ _ _
       rw [World.setRow_alloc_new])
    | (go_at_call 44
       have hb11 : b1 < w11.heap.size := P11.out.lt
       have hq := (Below.refl w11.heap.size w11).alloc (Nat.le_refl _) (.cells (stc d'.hnil d'.spaced d'.lbe d'.rop d'.rfp kc lg rm ⟨l.toArray⟩ sA.isNone) 77)
       have q12 := Q11.out.trans (hq.mono Q11.out.size)
       refine (state_any b2 none 0 d'.spaced d'.lbe d'.rop d'.rfp kc lg rm y2 sN sN _ l _ (R11.out.below hq R11.out.lt) (clean_of b2 KR.out) (S2.out.below q12) HLL.out).mono ?_; rintro e w12 ⟨rfl, hb1⟩
       rw [Y2.out]
       have P12 := Lib.hid ((P11.out.below hq P11.out.lt).below hb1 (Nat.lt_of_lt_of_le P11.out.lt hq.size))
       have Q12 := Lib.hid (q12.trans (hb1.mono q12.size))
       have T12 := Lib.hid ((Bk.new w11 77 (stc d'.hnil d'.spaced d'.lbe d'.rop d'.rfp kc lg rm ⟨l.toArray⟩ sA.isNone)).below hb1 (by simp))
       have hg15 : w11.heap.size < w12.heap.size := T12.out.lt
       clear hb1 hq q12 P11 R11 Q11)
    | (with_reducible refine wpList_store_row rfl 77 _ _ rfl w12.heap.size (stc true d'.spaced d'.lbe d'.rop d'.rfp kc lg rm ⟨l.toArray⟩ sA.isNone) ?_ ?_ 77 zst ?_ ?_ ?_ ?_ ?_
       · rfl
       · rfl
       · exact Bk.new w12 77 zst
       · exact sizeS
       · rfl
       · exact stc_one _ _ _ _ _ _ _ _ _ _
       rw [World.setRow_alloc_new]
       have P13 := Lib.hid (P12.out.below ((Below.refl w12.heap.size w12).alloc (Nat.le_refl _) (.cells (stc true d'.spaced d'.lbe d'.rop d'.rfp kc lg rm ⟨l.toArray⟩ sA.isNone) 77)) P12.out.lt)
       have Q13 := Lib.hid (Q12.out.alloc Q12.out.size (.cells (stc true d'.spaced d'.lbe d'.rop d'.rfp kc lg rm ⟨l.toArray⟩ sA.isNone) 77))
       have T13 := Lib.hid (T12.out.alloc (.cells (stc true d'.spaced d'.lbe d'.rop d'.rfp kc lg rm ⟨l.toArray⟩ sA.isNone) 77))
       have U13 := Lib.hid (Bk.new w12 77 (stc true d'.spaced d'.lbe d'.rop d'.rfp kc lg rm ⟨l.toArray⟩ sA.isNone))
       obtain ⟨w13, hw13⟩ : ∃ x, w12.alloc (.cells (stc true d'.spaced d'.lbe d'.rop d'.rfp kc lg rm ⟨l.toArray⟩ sA.isNone) 77) = x := ⟨_, rfl⟩
       rw [hw13] at P13 Q13 T13 U13 ⊢
       clear hw13 P12 Q12 T12)
    | (with_reducible refine wpList_load_row rfl 77 _ rfl w11.heap.size rfl 77 (stc d'.hnil d'.spaced d'.lbe d'.rop d'.rfp kc lg rm ⟨l.toArray⟩ sA.isNone) (0, 0) _ ?_ Try.underlying77 ?_ ?_ ?_
       · exact T13.out
       · rfl
       · exact sizeS)
    | (with_reducible refine wpList_store_row rfl 77 _ _ rfl w13.heap.size (stc d'.hnil d'.spaced d'.lbe d'.rop d'.rfp kc lg rm ⟨l.toArray⟩ sA.isNone) ?_ ?_ 77 zst ?_ ?_ ?_ ?_ ?_
       · rfl
       · rfl
       · exact Bk.new w13 77 zst
       · exact sizeS
       · rfl
       · exact stc_one _ _ _ _ _ _ _ _ _ _
       rw [World.setRow_alloc_new]
       have hq14 := (Below.refl w13.heap.size w13).alloc (Nat.le_refl _) (.cells (stc d'.hnil d'.spaced d'.lbe d'.rop d'.rfp kc lg rm ⟨l.toArray⟩ sA.isNone) 77)
       have hg13 : w11.heap.size < w13.heap.size := T13.out.lt
       have P14 := Lib.hid (P13.out.below hq14 P13.out.lt)
       have Q14 := Lib.hid (Q13.out.alloc Q13.out.size (.cells (stc d'.hnil d'.spaced d'.lbe d'.rop d'.rfp kc lg rm ⟨l.toArray⟩ sA.isNone) 77))
       have T14 := Lib.hid (T13.out.alloc (.cells (stc d'.hnil d'.spaced d'.lbe d'.rop d'.rfp kc lg rm ⟨l.toArray⟩ sA.isNone) 77))
       have U14 := Lib.hid (U13.out.alloc (.cells (stc d'.hnil d'.spaced d'.lbe d'.rop d'.rfp kc lg rm ⟨l.toArray⟩ sA.isNone) 77))
       have V14 := Lib.hid (Bk.new w13 77 (stc d'.hnil d'.spaced d'.lbe d'.rop d'.rfp kc lg rm ⟨l.toArray⟩ sA.isNone))
       have k14 := K6.out.below Q14.out K6.out.lt
       obtain ⟨w14, hw14⟩ : ∃ x, w13.alloc (.cells (stc d'.hnil d'.spaced d'.lbe d'.rop d'.rfp kc lg rm ⟨l.toArray⟩ sA.isNone) 77) = x := ⟨_, rfl⟩
       rw [hw14] at P14 Q14 T14 U14 V14 k14 ⊢
       have c17 := (k14.cell 17).trans (show d'.cells[17]? = some (.bool d'.hnil) from rfl)
       have c18 := (T14.out.cell 18).trans (show (stc d'.hnil d'.spaced d'.lbe d'.rop d'.rfp kc lg rm ⟨l.toArray⟩ sA.isNone)[18]? = some (.bool d'.hnil) from rfl)
       have c18' := (U14.out.cell 18).trans (show (stc true d'.spaced d'.lbe d'.rop d'.rfp kc lg rm ⟨l.toArray⟩ sA.isNone)[18]? = some (.bool true) from rfl)
       have f18 := T14.out.free 18
       have hneq := stc_neq true d'.spaced d'.lbe d'.rop d'.rfp kc lg rm ⟨l.toArray⟩ sA.isNone
       clear hw14 P13 Q13 T13 U13 hq14 k14)
    | (with_reducible refine wpList_load_row rfl 77 _ rfl w11.heap.size rfl 77 (stc true d'.spaced d'.lbe d'.rop d'.rfp kc lg rm ⟨l.toArray⟩ sA.isNone) (0, 0) _ ?_ Try.underlying77 ?_ ?_ ?_
       · exact T14.out.put 18 (.bool true)
       · rfl
       · exact sizeS)
    | (with_reducible refine wpList_load_row rfl 77 _ rfl w12.heap.size rfl 77 (stc true d'.spaced d'.lbe d'.rop d'.rfp kc lg rm ⟨l.toArray⟩ sA.isNone) (0, 0) _ ?_ Try.underlying77 ?_ ?_ ?_
       · exact U14.out.far (p := ⟨w11.heap.size, 18, none⟩) (by show w12.heap.size ≠ w11.heap.size; omega) (.bool true)
       · rfl
       · exact sizeS)
    | (go_at_call 28
       have hp0 : PBlk (w14.setCell ⟨w11.heap.size, 18, none⟩ (.bool true)) b1 (wiped b1 hA hC C1) := (Below.heap_setCell w14 ⟨w11.heap.size, 18, none⟩ (.bool true) b1 (by show b1 ≠ w11.heap.size; omega)).trans P14.out
       have hv0 := V14.out.far (p := ⟨w11.heap.size, 18, none⟩) (by show w13.heap.size ≠ w11.heap.size; have := hg13; omega) (.bool true)
       have hq0 := Q14.out.setCell (p := ⟨w11.heap.size, 18, none⟩) (by show w6.heap.size ≤ w11.heap.size; omega) (.bool true)
       have hcl := clean_of b1 (clean_of b1 KP.out).kept
       refine (zzReset_only b1 hA 0 hC (wiped b1 hA hC C1) _ hp0 (clean_of b1 KP.out).size (clean_of b1 KP.out).c26 (Nat.zero_le _) h63).mono ?_; rintro e w15 ⟨rfl, hp, hB, hO⟩
       have V15 : Hid (Bk w15 w13.heap.size 77 (stc d'.hnil d'.spaced d'.lbe d'.rop d'.rfp kc lg rm ⟨l.toArray⟩ sA.isNone)) := (hO w13.heap.size (by omega)).trans hv0
       have Q15 := Lib.hid (hq0.trans (hB _ hle1))
       obtain ⟨CC, hCC⟩ : ∃ CC, wiped b1 hA hC (wiped b1 hA hC C1) = CC := ⟨_, rfl⟩
       rw [hCC] at hp hcl
       have P15 := Lib.hid hp
       have HCL := Lib.hid hcl
       clear hp hB hO hcl hCC hp0 hv0 hq0 P14 Q14 V14 T14 U14 c17 c18 c18' f18 hneq))
  all_goals try first | (go_ret; exact ⟨rfl, A2.out⟩) | (go_ret; exact ⟨rfl, A1.out⟩)
  have heql := stc_eql d'.hnil d'.spaced d'.lbe d'.rop d'.rfp kc lg rm ⟨l.toArray⟩ sA.isNone
  have hg := Nat.le_refl w13.heap.size
  generalize w13.heap.size = g at *
  refine wp_region_held_drew (S := fun W => Bk W g 77 (stc d'.hnil d'.spaced d'.lbe d'.rop d'.rfp kc lg rm ⟨l.toArray⟩ sA.isNone) ∧ PBlk W b1 CC ∧ Below w6.heap.size w6 W) (by kernel_rfl) ⟨V15.out.drew, P15.out.drew, Q15.out.drew⟩ (fun hHeld => ?_)
  refine wpAnyH_take (i := 2) (v := .agg (stc d'.hnil d'.spaced d'.lbe d'.rop d'.rfp kc lg rm ⟨l.toArray⟩ sA.isNone)) rfl (by kernel_rfl) (by kernel_rfl) (by kernel_rfl) (fun _ _ _ h => h) (yieldsIf_load_row (by rfl) 77 _ rfl g rfl _ 77 (0, 0) _ (fun W h => h.1) Try.underlying77 rfl sizeS) hHeld ?_
  simp only [Act.put, List.setIfInBounds_toArray]
  refine wpAnyH_take (i := 0) (v := .pointer (some ⟨b1, 0, none⟩)) rfl (by kernel_rfl) (by kernel_rfl) (by kernel_rfl) (fun _ _ _ h => h) (Or.inl ⟨by rfl, ?_⟩) hHeld ?_
  · intro W hSw
    go_simp
  simp only [Act.put]
  refine wpAnyH_ready (rs := [1]) (by kernel_rfl) (by simp) ?_
  refine AllReadyH.cons rfl (fun K hK => ?_) AllReadyH.nil
  go_simp
  obtain ⟨hv, hp, hq⟩ := hHeld
  refine (state_any b1 hA hC d'.spaced d'.lbe d'.rop d'.rfp kc lg rm y1 sN sN _ l _ hp HCL.out (S1'.out.below hq) HLL.out).mono ?_; rintro e w16 ⟨rfl, hb16⟩
  rw [NL.out, Y1.out]
  have v16 := Bk.below hv hb16 hv.lt
  have p16 := PBlk.below hp hb16 hp.lt
  have q16 := hq.trans (hb16.mono hq.size)
  clear hv hp hq
  refine hK.out _ _ ⟨v16, p16, q16⟩ (fun hHeld => ?_)
  clear hK K
  try simp only [Act.put, List.setIfInBounds_toArray, List.set_cons_zero, List.set_cons_succ]
  refine wpAnyH_take (i := 3) (oi := ⟨some 81, .binOp .eql 77 (.tmp 79) (.tmp 80) 77, _, _, _, none⟩) (v := .bool true) rfl (by kernel_rfl) (by kernel_rfl) (by kernel_rfl) (fun _ _ _ h => h) (Or.inl ⟨by rfl, ?_⟩) hHeld ?_
  · intro W hSw
    go_simp
  try simp only [Act.put, List.setIfInBounds_toArray, List.set_cons_zero, List.set_cons_succ]
  refine wpAnyH_take (i := 4) (oi := ⟨some 10, .assign (.tmp 81), _, _, _, none⟩) (v := .bool true) rfl (by kernel_rfl) (by kernel_rfl) (by kernel_rfl) (fun _ _ _ h => h) (Or.inl ⟨by rfl, ?_⟩) hHeld ?_
  · intro W hSw
    go_simp
  try simp only [Act.put, List.setIfInBounds_toArray, List.set_cons_zero, List.set_cons_succ]
  refine wpAnyH_done (by kernel_rfl) ?_ _
  have HF := Lib.hid (A6.out.trans (q16.mono A6.out.size))
  clear hHeld v16 p16 q16 hb16
  go_wp2
  go_ret
  exact ⟨rfl, HF.out⟩
end DT
end Go.Proofs.Ytknilfihibmgdaa
