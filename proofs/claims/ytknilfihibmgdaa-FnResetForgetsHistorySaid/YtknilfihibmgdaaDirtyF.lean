/- The contract of ZZstate at a parser that reset has cleaned, and: such a state equals itself. Conditions: the cells that the contract names. -/
import Derived.Test.YtknilfihibmgdaaDirtyE
import Derived.Laws.StructEq
import Derived.ChangeKeysEq
import Derived.Laws.IdiomStrings
import Derived.Lib.BufferRead
import Derived.LaidEqlPtr
import Derived.StillTailTactics
import Derived.Test.YtknilfihibmgdaaLin
import Derived.BigQuiet
import Derived.Deep.QuietTactic
namespace Go.Proofs.Ytknilfihibmgdaa
namespace DT
open Go.RowKit

/-- the cells that ZZstate reads, behind reset -/
structure Clean (C : Array Value) (b : Nat) (hA : Option Addr) (hC : Nat) (sp : Bool) (lb rx : Int) (rf kc : Bool) (lg rm : Int) (sA : Option Addr) (sN sC : Nat) : Prop where
  size : C.size = 2088
  c10 : C[10]? = some (.int .u32 0)
  c11 : C[11]? = some (.string ⟨#[]⟩)
  c18 : C[18]? = some (.int .i64 0)
  c1 : C[1]? = some (.slice none 0 0)
  c2 : C[2]? = some (.int .u64 0)
  c12 : C[12]? = some (.int .i64 0)
  c13 : C[13]? = some (.int .i64 1)
  c14 : C[14]? = some (.int .i64 1)
  c3 : C[3]? = some (.int .i32 0)
  c4 : C[4]? = some (.int .i64 0)
  c7 : C[7]? = some (.nilIface)
  c8 : C[8]? = some (.nilIface)
  c9 : C[9]? = some (.bool false)
  c17 : C[17]? = some (.int .u32 1)
  c24 : C[24]? = some (.bool false)
  c29 : C[29]? = some (.int .i64 0)
  c22 : C[22]? = some (.int .i64 0)
  c26 : C[26]? = some (.slice hA 0 hC)
  c25 : C[25]? = some (.int .i64 0)
  c27 : C[27]? = some (.slice none 0 0)
  c28 : C[28]? = some (.bool false)
  c30 : C[30]? = some (.int .i64 0)
  c31 : C[31]? = some (.int .i64 0)
  c35 : C[35]? = some (.slice none 0 0)
  c36 : C[36]? = some (.pointer (some ⟨b, 35, none⟩))
  c37 : C[37]? = some (.slice none 0 0)
  c38 : C[38]? = some (.slice none 0 0)
  c2087 : C[2087]? = some (.slice none 0 0)
  c6 : C[6]? = some (.bool sp)
  c32 : C[32]? = some (.int .i64 lb)
  c33 : C[33]? = some (.int .i64 rx)
  c34 : C[34]? = some (.bool rf)
  c19 : C[19]? = some (.bool kc)
  c20 : C[20]? = some (.int .i64 lg)
  c23 : C[23]? = some (.int .i64 rm)
  c21 : C[21]? = some (.slice sA sN sC)
theorem clean_of {C : Array Value} {hN : Nat} {hA : Option Addr} {hC : Nat} {sp : Bool} {lb rx : Int} {rf kc : Bool} {lg rm : Int} {sA : Option Addr} {sN sC : Nat} (b : Nat) (h : Kept C hA hN hC sp lb rx rf kc lg rm sA sN sC) :
    Clean (wiped b hA hC C) b hA hC sp lb rx rf kc lg rm sA sN sC := by
  obtain ⟨h1, h2, h3, h4, h5, h6, h7, h8, h9, h10⟩ := h
  constructor
  · exact (wiped_size _ _ _ _).trans h1
  · simp [wiped, h1]
  · simp [wiped, h1]
  · simp [wiped, h1]
  · simp [wiped, h1]
  · simp [wiped, h1]
  · simp [wiped, h1]
  · simp [wiped, h1]
  · simp [wiped, h1]
  · simp [wiped, h1]
  · simp [wiped, h1]
  · simp [wiped, h1]
  · simp [wiped, h1]
  · simp [wiped, h1]
  · simp [wiped, h1]
  · simp [wiped, h1]
  · simp [wiped, h1]
  · simp [wiped, h1]
  · simp [wiped, h1]
  · simp [wiped, h1]
  · simp [wiped, h1]
  · simp [wiped, h1]
  · simp [wiped, h1]
  · simp [wiped, h1]
  · simp [wiped, h1]
  · simp [wiped, h1]
  · simp [wiped, h1]
  · simp [wiped, h1]
  · simp [wiped, h1]
  · simp only [wiped]; simp [h3]
  · simp only [wiped]; simp [h4]
  · simp only [wiped]; simp [h5]
  · simp only [wiped]; simp [h6]
  · simp only [wiped]; simp [h7]
  · simp only [wiped]; simp [h8]
  · simp only [wiped]; simp [h9]
  · simp only [wiped]; simp [h10]
theorem Clean.kept {C : Array Value} {hA : Option Addr} {hC : Nat} {sp : Bool} {lb rx : Int} {rf kc : Bool} {lg rm : Int} {sA : Option Addr} {sN sC b : Nat} (h : Clean C b hA hC sp lb rx rf kc lg rm sA sN sC) : Kept C hA 0 hC sp lb rx rf kc lg rm sA sN sC :=
  ⟨h.size, h.c26, h.c6, h.c32, h.c33, h.c34, h.c19, h.c20, h.c23, h.c21⟩
/-- the cells of the state that ZZstate gives -/
def stc (hn sp : Bool) (lb rx : Int) (rf kc : Bool) (lg rm : Int) (s : ByteArray) (sn : Bool) : Array Value := #[.int .u32 0, .string ⟨#[]⟩, .int .i64 0, .bool true, .int .u64 0, .int .i64 0, .int .i64 1, .int .i64 1, .int .i32 0, .int .i64 0, .bool true, .bool true, .bool false, .int .u32 1, .bool false, .int .i64 0, .int .i64 0, .int .i64 0, .bool hn, .int .i64 0, .bool true, .bool false, .int .i64 0, .int .i64 0, .bool true, .bool true, .bool true, .bool true, .bool true, .bool sp, .int .i64 lb, .int .i64 rx, .bool rf, .bool kc, .int .i64 lg, .int .i64 rm, .string s, .bool sn]
theorem stc_one (hn sp : Bool) (lb rx : Int) (rf kc : Bool) (lg rm : Int) (s : ByteArray) (sn : Bool) : (stc hn sp lb rx rf kc lg rm s sn).all (·.oneCell') = true := by simp [stc, Value.oneCell']
theorem sizeS : (Try.prog.info? 77).map (·.size) = some 38 := by kernel_rfl
/-- field f of xs is a number, a bool or a string, as its type says -/
def okAt (P : Program) (xs : Array Value) (f : Field) : Bool := P.plainKey f.type && match xs[f.offset]?, P.underlying f.type with
  | some (.int k _), some (.int k') => k == k'
  | some (.bool _), some .bool => true
  | some (.string _), some .string => true
  | _, _ => false
theorem eqFields_self {P : Program} (d : Nat) (xs : Array Value) (w : World) : ∀ (fs : List Field), (∀ f ∈ fs, okAt P xs f = true) → (Op.eqFields (d + 1) xs xs fs).run P w = .ok true w
  | [], _ => rfl
  | f :: fs, h => by
    have hf := h f (by simp)
    have ih := eqFields_self d xs w fs (fun g hg => h g (by simp [hg]))
    unfold okAt at hf
    simp only [Bool.and_eq_true] at hf
    obtain ⟨hp, hm⟩ := hf
    have key : ∃ v, xs[f.offset]? = some v ∧ (Op.equalIn (d + 1) f.type v v).run P w = .ok true w := by
      split at hm
      · rename_i k n k' hx hu
        have : k = k' := by simpa using hm
        subst this
        exact ⟨_, hx, by rw [run_equalIn_int w d f.type k k n n hu]; simp⟩
      · rename_i y hx hu
        exact ⟨_, hx, by rw [run_equalIn_bool' w d f.type y y hu]; simp⟩
      · rename_i y hx hu
        exact ⟨_, hx, by rw [run_equalIn_string w d f.type y y hu]; simp⟩
      · cases hm
    obtain ⟨v, hv, he⟩ := key
    have hpt := run_part_plain (P := P) (w := w) hp hv
    unfold Op.eqFields
    split
    · simp [Sem.run_bind, hpt, he, ih]
    · exact ih
theorem ok_all (hn sp : Bool) (lb rx : Int) (rf kc : Bool) (lg rm : Int) (s : ByteArray) (sn : Bool) : ((Try.prog.fieldsOf 77).toList.all (okAt Try.prog (stc hn sp lb rx rf kc lg rm s sn))) = true := by kernel_rfl
theorem under_st : Try.prog.underlying 77 = some (.struct (Try.prog.fieldsOf 77)) := by kernel_rfl
theorem stc_equal (hn sp : Bool) (lb rx : Int) (rf kc : Bool) (lg rm : Int) (s : ByteArray) (sn : Bool) (w : World) :
    (Op.equalIn 10000 77 (.agg (stc hn sp lb rx rf kc lg rm s sn)) (.agg (stc hn sp lb rx rf kc lg rm s sn))).run Try.prog w = .ok true w := by
  rw [run_equalIn_struct w 9999 77 _ _ under_st (by kernel_rfl)]
  exact eqFields_self 9998 _ w _ (fun f hf => List.all_eq_true.1 (ok_all hn sp lb rx rf kc lg rm s sn) f hf)
theorem stc_eql (hn sp : Bool) (lb rx : Int) (rf kc : Bool) (lg rm : Int) (s : ByteArray) (sn : Bool) (w : World) :
    (binOp .eql 77 (.agg (stc hn sp lb rx rf kc lg rm s sn)) (.agg (stc hn sp lb rx rf kc lg rm s sn))).run Try.prog w = .ok (.bool true) w := by
  rw [run_eql_struct, stc_equal]; rfl
theorem stc_neq (hn sp : Bool) (lb rx : Int) (rf kc : Bool) (lg rm : Int) (s : ByteArray) (sn : Bool) (w : World) :
    (binOp .neq 77 (.agg (stc hn sp lb rx rf kc lg rm s sn)) (.agg (stc hn sp lb rx rf kc lg rm s sn))).run Try.prog w = .ok (.bool false) w := by
  rw [run_neq_struct, stc_equal]; rfl
/-- the text of a slice of bytes -/
theorem conv_row (a : Option Addr) (n c : Nat) (l : List UInt8) (w : World) (h : BRow w a n c (fun j => ((l.getD j 0).toNat : Int))) (hl : l.length = n) : (convert 54 9 (.slice a n c)).run Try.prog w = .ok (.string ⟨l.toArray⟩) w := by
  cases a with
  | none =>
    obtain ⟨rfl, rfl⟩ := h.2 rfl
    have : l = [] := List.eq_nil_of_length_eq_zero hl
    subst this
    exact Lib.run_convert_nil_bytes w 54 9 5 0 Try.underlying54 Try.underlying5 Try.underlying9
  | some x =>
    subst hl
    refine run_convert_bytes_back (P := Try.prog) w 54 9 5 x c l Try.underlying54 Try.underlying5 Try.underlying9 (fun j hj => ?_)
    obtain ⟨y, hy, hc⟩ := h.1 j hj
    obtain rfl : x = y := by simpa using hy
    rw [hc]
    simp [hj]
theorem eql_same (x : Addr) (w : World) : (binOp .eql 101 (.pointer (some x)) (.pointer (some x))).run Try.prog w = .ok (.bool true) w := by
  cases hi : Try.prog.info? 30 with
  | none => have h : (Try.prog.info? 30).isSome = true := by kernel_rfl
            rw [hi] at h; cases h
  | some j => exact run_eql_ptr_same _ x Try.underlying101 hi
theorem built_st (hn sp : Bool) (lb rx : Int) (rf kc : Bool) (lg rm : Int) (s : ByteArray) (sn : Bool) :
    Try.prog.built 77 [(0, .int .u32 0), (1, .string ⟨#[]⟩), (2, .int .i64 0), (3, .bool true), (4, .int .u64 0), (5, .int .i64 0), (6, .int .i64 1), (7, .int .i64 1), (8, .int .i32 0), (9, .int .i64 0), (10, .bool true), (11, .bool true), (12, .bool false), (13, .int .u32 1), (14, .bool false), (15, .int .i64 0), (16, .int .i64 0), (17, .int .i64 0), (18, .bool hn), (19, .int .i64 0), (20, .bool true), (21, .bool false), (22, .int .i64 0), (23, .int .i64 0), (24, .bool true), (25, .bool true), (26, .bool true), (27, .bool true), (28, .bool true), (29, .bool sp), (30, .int .i64 lb), (31, .int .i64 rx), (32, .bool rf), (33, .bool kc), (34, .int .i64 lg), (35, .int .i64 rm), (36, .string s), (37, .bool sn)] = some (stc hn sp lb rx rf kc lg rm s sn) := by kernel_rfl
/-- the state that ZZstate gives -/
def Stated (A : Array Value) (w : World) (e : Ending) (w' : World) : Prop := e = .returned (.agg A) ∧ Below w.heap.size w w'
set_option maxRecDepth 100000 in
set_option maxHeartbeats 8000000 in
theorem state_any (b : Nat) (hA : Option Addr) (hC : Nat) (sp : Bool) (lb rx : Int) (rf kc : Bool) (lg rm : Int) (sA : Option Addr) (sN sC : Nat) (C : Array Value) (l : List UInt8) (w : World)
    (hP : PBlk w b C) (hc : Clean C b hA hC sp lb rx rf kc lg rm sA sN sC) (hs : BRow w sA sN sC (fun j => ((l.getD j 0).toNat : Int))) (hl : l.length = sN) :
    Calls Try.prog 44 #[.pointer (some ⟨b, 0, none⟩)] w (Stated (stc hA.isNone sp lb rx rf kc lg rm ⟨l.toArray⟩ sA.isNone) w) := by
  have hb : b < w.heap.size := hP.lt
  have Z0 : ∃ Z : Array Value, Z.size = 38 ∧ #[.int .u32 0, .string ⟨#[]⟩, .int .i64 0, .bool false, .int .u64 0, .int .i64 0, .int .i64 0, .int .i64 0, .int .i32 0, .int .i64 0, .bool false, .bool false, .bool false, .int .u32 0, .bool false, .int .i64 0, .int .i64 0, .int .i64 0, .bool false, .int .i64 0, .bool false, .bool false, .int .i64 0, .int .i64 0, .bool false, .bool false, .bool false, .bool false, .bool false, .bool false, .int .i64 0, .int .i64 0, .bool false, .bool false, .int .i64 0, .int .i64 0, .string ⟨#[]⟩, .bool false] = Z := ⟨_, rfl, rfl⟩
  obtain ⟨Z, hz1, hz2⟩ := Z0
  have HZ := Lib.hid hz1
  have HZ2 := Lib.hid hz2
  have HP := Lib.hid hP
  have HCL := Lib.hid hc
  have HS := Lib.hid hs
  clear hz1 hz2 hP hc hs
  go_enter Try.func44, Try.ntmps44
  go_wp2
  rw [HZ2.out]
  have HB0 := Lib.hid ((Below.refl w.heap.size w).alloc (Nat.le_refl _) (.cells Z 77))
  have HPW := Lib.hid (HP.out.below HB0.out hb)
  have HZW := Lib.hid (Bk.new w 77 Z)
  have hcv := conv_row sA sN sC l (w.alloc (.cells Z 77)).drew ((HS.out.below HB0.out).below (Below.refl _ _).drew) hl
  clear HZ2 HP HS hl
  generalize w.alloc (.cells Z 77) = W at *
  have q1 := CB.sl_eql
  have q2 := fun (w : World) => Lib.run_eql_slice_nil (P := Try.prog) w 100 137 hA 0 hC 0 0 Try.underlying100
  have d10 := (HPW.out.cell 10).trans HCL.out.c10
  have d11 := (HPW.out.cell 11).trans HCL.out.c11
  have d18 := (HPW.out.cell 18).trans HCL.out.c18
  have d1 := (HPW.out.cell 1).trans HCL.out.c1
  have d2 := (HPW.out.cell 2).trans HCL.out.c2
  have d12 := (HPW.out.cell 12).trans HCL.out.c12
  have d13 := (HPW.out.cell 13).trans HCL.out.c13
  have d14 := (HPW.out.cell 14).trans HCL.out.c14
  have d3 := (HPW.out.cell 3).trans HCL.out.c3
  have d4 := (HPW.out.cell 4).trans HCL.out.c4
  have d7 := (HPW.out.cell 7).trans HCL.out.c7
  have d8 := (HPW.out.cell 8).trans HCL.out.c8
  have d9 := (HPW.out.cell 9).trans HCL.out.c9
  have d17 := (HPW.out.cell 17).trans HCL.out.c17
  have d24 := (HPW.out.cell 24).trans HCL.out.c24
  have d29 := (HPW.out.cell 29).trans HCL.out.c29
  have d22 := (HPW.out.cell 22).trans HCL.out.c22
  have d26 := (HPW.out.cell 26).trans HCL.out.c26
  have d25 := (HPW.out.cell 25).trans HCL.out.c25
  have d27 := (HPW.out.cell 27).trans HCL.out.c27
  have d28 := (HPW.out.cell 28).trans HCL.out.c28
  have d30 := (HPW.out.cell 30).trans HCL.out.c30
  have d31 := (HPW.out.cell 31).trans HCL.out.c31
  have d35 := (HPW.out.cell 35).trans HCL.out.c35
  have d36 := (HPW.out.cell 36).trans HCL.out.c36
  have d37 := (HPW.out.cell 37).trans HCL.out.c37
  have d38 := (HPW.out.cell 38).trans HCL.out.c38
  have d2087 := (HPW.out.cell 2087).trans HCL.out.c2087
  have d6 := (HPW.out.cell 6).trans HCL.out.c6
  have d32 := (HPW.out.cell 32).trans HCL.out.c32
  have d33 := (HPW.out.cell 33).trans HCL.out.c33
  have d34 := (HPW.out.cell 34).trans HCL.out.c34
  have d19 := (HPW.out.cell 19).trans HCL.out.c19
  have d20 := (HPW.out.cell 20).trans HCL.out.c20
  have d23 := (HPW.out.cell 23).trans HCL.out.c23
  have d21 := (HPW.out.cell 21).trans HCL.out.c21
  have q3 := sl2_eql
  have q4 := fun (w : World) => Lib.run_eql_slice_nil (P := Try.prog) w 30 132 none 0 0 0 0 Try.underlying30
  have q5 := fun (w : World) => Lib.run_eql_slice_nil (P := Try.prog) w 102 87 none 0 0 0 0 Try.underlying102
  have q6 := fun (w : World) => Lib.run_eql_slice_nil (P := Try.prog) w 103 145 none 0 0 0 0 Try.underlying103
  have q7 := eql_same ⟨b, 35, none⟩
  refine wp_region_still_tail 168 (by kernel_rfl) (LIN.lexTail_of_lin (c := 3) (by kernel_rfl)) ?_
  simp only [List.take_succ_cons, List.take_zero, List.drop_succ_cons, List.drop_zero]
  repeat still_step
  refine wpStill_nil ?_
  change wpList _ _ _ _ _ W.drew
  refine wpList_buildTo rfl 77 _ rfl _ rfl (stc hA.isNone sp lb rx rf kc lg rm ⟨l.toArray⟩ sA.isNone) (by simp; exact built_st _ _ _ _ _ _ _ _ _ _) ?_
  refine wpList_store_row rfl 77 _ _ rfl w.heap.size (stc hA.isNone sp lb rx rf kc lg rm ⟨l.toArray⟩ sA.isNone) rfl rfl 77 Z HZW.out.drew sizeS HZ.out (stc_one _ _ _ _ _ _ _ _ _ _) ?_
  go_wp2
  refine bodyPost_ret (v := .agg (stc hA.isNone sp lb rx rf kc lg rm ⟨l.toArray⟩ sA.isNone)) ?_ ?_ ?_
  · exact results_cell_row Try.results44 _ _ w.heap.size 77 _ (0, 0) _ rfl (HZW.out.drew.row _) Try.underlying77 rfl sizeS
  · rfl
  · exact ⟨rfl, below_setRow HB0.out.drew (Nat.le_refl _) _⟩
end DT
end Go.Proofs.Ytknilfihibmgdaa
