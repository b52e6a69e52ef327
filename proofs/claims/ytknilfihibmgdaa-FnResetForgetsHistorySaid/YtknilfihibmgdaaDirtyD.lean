/- The contracts of the functions that build parsers out of a dirty state and out of a configuration. Conditions: what the contracts name. -/
import Derived.Test.YtknilfihibmgdaaDirtyC
import Derived.Test.YtknilfihibmgdaaReset
namespace Go.Proofs.Ytknilfihibmgdaa
namespace DT
open Go.RowKit

/-- the cells of a parser that reset leaves alone, and its heredocs -/
def Kept (C : Array Value) (hA : Option Addr) (hN hC : Nat) (sp : Bool) (lb rx : Int) (rf kc : Bool) (lg rm : Int) (sA : Option Addr) (sN sC : Nat) : Prop :=
  C.size = 2088 ∧ C[26]? = some (.slice hA hN hC) ∧ C[6]? = some (.bool sp) ∧ C[32]? = some (.int .i64 lb) ∧ C[33]? = some (.int .i64 rx) ∧ C[34]? = some (.bool rf) ∧
  C[19]? = some (.bool kc) ∧ C[20]? = some (.int .i64 lg) ∧ C[23]? = some (.int .i64 rm) ∧ C[21]? = some (.slice sA sN sC)
/-- a new parser -/
def NewK (hA : Option Addr) (hN hC : Nat) (sp : Bool) (lb rx : Int) (rf kc : Bool) (lg rm : Int) (sA : Option Addr) (sN sC : Nat) (w : World) (e : Ending) (w' : World) : Prop :=
  ∃ b C, e = .returned (.pointer (some ⟨b, 0, none⟩)) ∧ w.heap.size ≤ b ∧ PBlk w' b C ∧ Kept C hA hN hC sp lb rx rf kc lg rm sA sN sC ∧ Below w.heap.size w w'
theorem built_conf (kc : Bool) (lg rm : Int) (sA : Option Addr) (sN sC : Nat) (sp : Bool) (lb rx : Int) (rf : Bool) :
    (Try.prog.built 106 [(18, .bool kc), (19, .int .i64 lg), (22, .int .i64 rm), (20, .slice sA sN sC), (6, .bool sp), (31, .int .i64 lb), (32, .int .i64 rx), (33, .bool rf)]).map (fun C => (C.size, C[26]?, C[6]?, C[32]?, C[33]?, C[34]?, C[19]?, C[20]?, C[23]?, C[21]?)) =
      some (2088, some (.slice none 0 0), some (.bool sp), some (.int .i64 lb), some (.int .i64 rx), some (.bool rf), some (.bool kc), some (.int .i64 lg), some (.int .i64 rm), some (.slice sA sN sC)) := by kernel_rfl
set_option maxRecDepth 100000 in
set_option maxHeartbeats 2000000 in
theorem conf_any (kc : Bool) (lg rm : Int) (sA : Option Addr) (sN sC : Nat) (sp : Bool) (lb rx : Int) (rf : Bool) (w : World) :
    Calls Try.prog 43 #[.bool kc, .int .i64 lg, .int .i64 rm, .slice sA sN sC, .bool sp, .int .i64 lb, .int .i64 rx, .bool rf] w (NewK none 0 0 sp lb rx rf kc lg rm sA sN sC w) := by
  obtain ⟨C, hC, h⟩ := Option.map_eq_some_iff.1 (built_conf kc lg rm sA sN sC sp lb rx rf)
  simp only [Prod.mk.injEq] at h
  have HC := Lib.hid hC
  have HS := Lib.hid h
  clear hC h
  go_enter Try.func43, Try.ntmps43
  go_wp2_with ((with_reducible refine wpList_buildTo rfl 106 _ rfl _ rfl C ?_ ?_); (focus (simp; exact HC.out)))
  go_ret
  exact ⟨_, C, rfl, Nat.le_refl _, PBlk.new w C, HS.out, (Below.refl _ _).alloc (Nat.le_refl _) _⟩
theorem built_dirty (d : Drt) (hA : Option Addr) (hN hC : Nat) (aA : Option Addr) (aN aC : Nat) (lA : Option Addr) (lN lC : Nat) (wA : Option Addr) (wN wC : Nat) (kc : Bool) (lg rm : Int) (sA : Option Addr) (sN sC : Nat) :
    (Try.prog.built 106 [(10, .int .u32 d.tok), (11, .string d.val), (17, .int .i64 d.eql), (1, .slice d.bsA d.bsN d.bsC), (2, .int .u64 d.bsp), (12, .int .i64 d.offs), (13, .int .i64 d.line), (14, .int .i64 d.col), (3, .int .i32 d.r), (4, .int .i64 d.w), (9, .bool d.readEOF), (16, .int .u32 d.quote), (23, .bool d.forbid), (28, .int .i64 d.opn), (21, .int .i64 d.recd), (25, .slice hA hN hC), (24, .int .i64 d.bur), (26, .slice d.hsA d.hsN d.hsC), (27, .bool d.pdoc), (29, .int .i64 d.obq), (30, .int .i64 d.obd), (34, .slice aA aN aC), (36, .slice lA lN lC), (37, .slice wA wN wC), (40, .slice d.lbA d.lbN d.lbC), (6, .bool d.spaced), (31, .int .i64 d.lbe), (32, .int .i64 d.rop), (33, .bool d.rfp), (18, .bool kc), (19, .int .i64 lg), (22, .int .i64 rm), (20, .slice sA sN sC)]).map (fun C => (C.size, C[26]?, C[6]?, C[32]?, C[33]?, C[34]?, C[19]?, C[20]?, C[23]?, C[21]?)) =
      some (2088, some (.slice hA hN hC), some (.bool d.spaced), some (.int .i64 d.lbe), some (.int .i64 d.rop), some (.bool d.rfp), some (.bool kc), some (.int .i64 lg), some (.int .i64 rm), some (.slice sA sN sC)) := by kernel_rfl
theorem mk_any {t e : TypeId} (ht : Try.prog.underlying t = some (.slice e)) (hp : ((Try.prog.info? e).any fun i => i.zero.isSome && decide (i.bytes ≤ 1024)) = true) (n : Int) (h0 : 0 ≤ n) (hn : n ≤ 4096) :
    ∃ X, ∀ w : World, (Instr.makeSlice t (.int .i64 n) (.int .i64 n)).run Try.prog w = .ok (.slice (some ⟨w.heap.size, 0, none⟩) n.toNat n.toNat) (w.alloc (.cells X e)) := by
  cases hi : Try.prog.info? e with
  | none => rw [hi] at hp; cases hp
  | some i =>
    rw [hi] at hp
    simp only [Option.any_some, Bool.and_eq_true, decide_eq_true_eq] at hp
    obtain ⟨z, hz⟩ := Option.isSome_iff_exists.1 hp.1
    refine ⟨madeCells z.cells (n.toNat * i.size), fun w => run_make (P := Try.prog) w t e i z ht hi hz .i64 .i64 n n h0 (Int.le_refl _) ?_ (by omega)⟩
    have h2 := hp.2
    have : (i.bytes : Int) * n ≤ 1024 * 4096 := Int.mul_le_mul (by omega) hn h0 (by omega)
    omega
set_option maxRecDepth 100000 in
set_option maxHeartbeats 4000000 in
theorem dirty_any (d : Drt) (hA : Option Addr) (hN hC : Nat) (aA : Option Addr) (aN aC : Nat) (lA : Option Addr) (lN lC : Nat) (kc : Bool) (lg rm : Int) (sA : Option Addr) (sN sC : Nat) (w : World) (h0 : 0 ≤ d.nwb) (h1 : d.nwb ≤ 4096) :
    Calls Try.prog 55 #[.int .u32 d.tok, .string d.val, .int .i64 d.eql, .slice d.bsA d.bsN d.bsC, .int .u64 d.bsp, .int .i64 d.offs, .int .i64 d.line, .int .i64 d.col, .int .i32 d.r, .int .i64 d.w, .bool d.readEOF, .int .u32 d.quote, .bool d.forbid, .int .i64 d.opn, .int .i64 d.recd, .slice hA hN hC, .int .i64 d.bur, .slice d.hsA d.hsN d.hsC, .bool d.pdoc, .int .i64 d.obq, .int .i64 d.obd, .slice aA aN aC, .slice lA lN lC, .int .i64 d.nwb, .slice d.lbA d.lbN d.lbC, .bool d.spaced, .int .i64 d.lbe, .int .i64 d.rop, .bool d.rfp, .bool kc, .int .i64 lg, .int .i64 rm, .slice sA sN sC] w
      (NewK hA hN hC d.spaced d.lbe d.rop d.rfp kc lg rm sA sN sC w) := by
  obtain ⟨X, hX⟩ := mk_any Try.underlying103 (by kernel_rfl) d.nwb h0 h1
  obtain ⟨C, hB, h⟩ := Option.map_eq_some_iff.1 (built_dirty d hA hN hC aA aN aC lA lN lC (some ⟨w.heap.size, 0, none⟩) d.nwb.toNat d.nwb.toNat kc lg rm sA sN sC)
  simp only [Prod.mk.injEq] at h
  have HC := Lib.hid hB
  have HS := Lib.hid h
  clear hB h
  go_enter Try.func55, Try.ntmps55
  go_wp2_with ((with_reducible refine wpList_buildTo rfl 106 _ rfl _ rfl C ?_ ?_); (focus (simp; exact HC.out)))
  go_ret
  have hk := PBlk.new (w.alloc (.cells X 145)) C
  rw [show (w.alloc (.cells X 145)).heap.size = w.heap.size + 1 by simp] at hk
  exact ⟨_, C, rfl, by simp, hk, HS.out, ((Below.refl _ _).alloc (Nat.le_refl _) _).alloc (by simp) _⟩
theorem Kept.put {C : Array Value} {hA : Option Addr} {hN hC : Nat} {sp : Bool} {lb rx : Int} {rf kc : Bool} {lg rm : Int} {sA : Option Addr} {sN sC : Nat} (h : Kept C hA hN hC sp lb rx rf kc lg rm sA sN sC) {i : Nat} (hi : i = 7 ∨ i = 8) (v : Value) :
    Kept (C.setIfInBounds i v) hA hN hC sp lb rx rf kc lg rm sA sN sC := by
  obtain ⟨h1, h2, h3, h4, h5, h6, h7, h8, h9, h10⟩ := h
  refine ⟨by simpa using h1, ?_, ?_, ?_, ?_, ?_, ?_, ?_, ?_, ?_⟩ <;> (rw [Array.getElem?_setIfInBounds_ne (by omega)]; assumption)
/-- cell i of the parser has been written -/
def Wrote (b i : Nat) (C : Array Value) (w : World) (e : Ending) (w' : World) : Prop := ∃ v, e = .returned (.tuple #[]) ∧ PBlk w' b (C.setIfInBounds i v) ∧ ∀ B, B ≤ b → Below B w w'
set_option maxHeartbeats 1000000 in
theorem setErr_any (b : Nat) (C : Array Value) (w : World) (h : PBlk w b C) (hC : C.size = 2088) : Calls Try.prog 56 #[.pointer (some ⟨b, 0, none⟩)] w (Wrote b 7 C w) := by
  obtain ⟨v7, c7⟩ := h.some 7 (by omega)
  have f := h.free
  have H := Lib.hid h
  clear h hC
  go_enter Try.func56, Try.ntmps56
  go_wp2
  go_end0
  exact ⟨_, rfl, H.out.put _ _, fun B hB => (Below.refl B w).setCell hB _⟩
set_option maxHeartbeats 1000000 in
theorem setRead_any (b : Nat) (C : Array Value) (w : World) (h : PBlk w b C) (hC : C.size = 2088) : Calls Try.prog 57 #[.pointer (some ⟨b, 0, none⟩)] w (Wrote b 8 C w) := by
  obtain ⟨v7, c7⟩ := h.some 8 (by omega)
  have f := h.free
  have H := Lib.hid h
  clear h hC
  go_enter Try.func57, Try.ntmps57
  go_wp2
  go_end0
  exact ⟨_, rfl, H.out.put _ _, fun B hB => (Below.refl B w).setCell hB _⟩
end DT
end Go.Proofs.Ytknilfihibmgdaa
