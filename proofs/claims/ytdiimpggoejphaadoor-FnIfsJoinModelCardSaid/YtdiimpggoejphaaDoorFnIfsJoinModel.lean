/- Proved here: ifsJoin puts between consecutive strings the first character of IFS, all its bytes (FnIfsJoinModel returns true), with the decoder's tables as the program's text lays them (the tied card). No other conditions. -/
import Derived.Test.YtdiimpggoejphaaDoorRows
import Derived.WalkKit
import Derived.Test.YtdiimpggoejphaaDoorCards
import Derived.Test.YtdiimpggoejphaaDoorTie
import Derived.LaidMore
import Derived.Stop.Joined
import Derived.Lib.Hide
import Derived.Lay
import Derived.Test.YtdiimpggoejphaaDoorIjs
import Derived.Test.YtdiimpggoejphaaDoorICS
import Derived.Lib.LaidU8
import Derived.BigQuiet
import Derived.Lib.BufferRead
import Derived.Deep.DeepCutAuto
import Derived.Lib.Strings
import Derived.Deep.RegionHeld3
import Derived.ProofKit
import Derived.OpenShut
import Derived.SliceStrings
import Derived.ShutString
import Derived.ChangeOld
import Derived.Below
namespace Go.Proofs.YtdiimpggoejphaaDoor.fnIfsJoinModel
open Go.ChangeShapes Go.WideShapes Go.ChangeAt Go.RowKit
open Go.ChangeMaps (open_string shut_string)
set_option linter.unusedVariables false

theorem own : ownKnob Tryd.prog.godebug = none := by kernel_rfl
theorem laidOut : laidOutB Tryd.prog = true := by kernel_rfl

/-- WHAT THE WALK IS TOLD OF A SLICE OF INTEGERS THAT CAME IN: it is nil; or it leads to a row of 'cap' cells, the numbers 'zs' (the first 'len' are its elements, the rest its spare room), each fitting its kind. -/
def IsRow (k : IntKind) (w : World) (a : Option Addr) (len cap : Nat) (zs : List Int) : Prop :=
  (a = none ∧ len = 0 ∧ cap = 0 ∧ zs = []) ∨
  ∃ x, a = some x ∧ len ≤ cap ∧ cap ≤ maxLen ∧ zs.length = cap ∧ (∀ i, i < zs.length → w.cell? (x.add i) = some (.int k (zs.getD i 0))) ∧ ∀ n ∈ zs, (Lit.int k n).wf = true

/-- WHAT THE WALK IS TOLD OF A SLICE OF STRINGS THAT CAME IN. -/
def IsStrs (w : World) (a : Option Addr) (len cap : Nat) (zs : List ByteArray) : Prop :=
  (a = none ∧ len = 0 ∧ cap = 0 ∧ zs = []) ∨
  ∃ x, a = some x ∧ len ≤ cap ∧ cap ≤ maxLen ∧ zs.length = cap ∧ (∀ i, i < zs.length → w.cell? (x.add i) = some (.string (zs.getD i ByteArray.empty))) ∧ ∀ s ∈ zs, s.size ≤ maxLen

/-! ### STEP 1: THE WALK: the Go text returns true, AND WRITES NOTHING THAT WAS THERE: 'Below w.heap.size w w'' (Derived/Below.lean: '.refl', '.alloc', '.drew', '.setCell' at a new block, '.trans'). Open each 'IsRow' by 'rcases' AHEAD of 'go_enter'; part every test ahead of the walk. -/
open IJ
theorem tabs {w : World} (hL : laidMetH Tryd.prog Rows.fnIfsJoinModelRow.laid w) : Lib.Utf8Tabs 1 2 w := by
  have hL' : laidMet Tryd.prog [("unicode/utf8.acceptRanges", Rows.laid_unicode_utf8_acceptRanges), ("unicode/utf8.first", Rows.laid_unicode_utf8_first)] w :=
    show laidMet Tryd.prog [("unicode/utf8.acceptRanges", Rows.laid_unicode_utf8_acceptRanges), ("unicode/utf8.first", Rows.laid_unicode_utf8_first)] w from hL
  have h4 : Lib.VarReads Tryd.prog w "unicode/utf8.acceptRanges" Lib.acceptData := (show (Rows.laid_unicode_utf8_acceptRanges : DataW Unit) = Lib.acceptData by kernel_rfl) ▸ Lib.laidMet.reads hL' (.head _)
  have h3 : Lib.VarReads Tryd.prog w "unicode/utf8.first" Lib.firstData := (show (Rows.laid_unicode_utf8_first : DataW Unit) = Lib.firstData by kernel_rfl) ▸ Lib.laidMet.reads hL' (.tail _ (.head _))
  exact utf8Tabs_of_reads Tryd.lays260 ⟨by kernel_rfl, by kernel_rfl, by kernel_rfl, by kernel_rfl, by kernel_rfl, by kernel_rfl, by kernel_rfl⟩ h3 h4
theorem strs_row {w : World} {a : Option Addr} {n c : Nat} {z : List ByteArray} (h : IsStrs w a n c z) :
    SRow w a n (fun i => z.getD i ByteArray.empty) ∧ (a = none → n = 0 ∧ c = 0) ∧ (∀ i, i < n → (z.getD i ByteArray.empty).size ≤ 9223372036854775807) ∧ n ≤ 9223372036854775807 := by
  rcases h with ⟨rfl, rfl, rfl, rfl⟩ | ⟨x, rfl, hl, hm, hz, hcell, hs⟩
  · exact ⟨fun i hi => absurd hi (Nat.not_lt_zero i), fun _ => ⟨rfl, rfl⟩, fun i hi => absurd hi (Nat.not_lt_zero i), by omega⟩
  · unfold maxLen at hm
    refine ⟨fun i hi => ⟨x, rfl, hcell i (by omega)⟩, (fun h => by cases h), fun i hi => ?_, by omega⟩
    have h1 : i < z.length := by omega
    have := hs (z.getD i ByteArray.empty) (by rw [List.getD_eq_getElem?_getD, List.getElem?_eq_getElem h1]; exact List.getElem_mem h1)
    unfold maxLen at this
    exact this
theorem info5 : (Tryd.prog.info? 5).map (fun i => (i.zero, i.size, i.bytes)) = some (some (.int .u8 0), 1, 1) := by kernel_rfl
theorem add_zero (g j : Nat) : (⟨g, 0, none⟩ : Addr).add j = ⟨g, j, none⟩ := by unfold Addr.add; split <;> simp_all
theorem add_nil (y : Addr) : y.add 0 = y := by obtain ⟨b, o, sp⟩ := y; unfold Addr.add; split <;> simp_all
/-- the text of the owned bytes -/
theorem conv_of {W : World} {B z : Nat} {v : Value} {l : List UInt8} (h : W.ownsRow B 5 1 v z (Lib.byteCells l)) (hz : z = l.length) (W' : World) (hb : Below W.heap.size W W') :
    (convert 31 9 v).run Tryd.prog W' = .ok (.string ⟨l.toArray⟩) W' := by
  subst hz
  rcases h.2 with ⟨rfl, h0⟩ | ⟨g, cap, cur, rfl, hg, hh, hn, hm, hcs, hxs⟩
  · have : l = [] := List.eq_nil_of_length_eq_zero h0
    subst this
    exact Lib.run_convert_nil_bytes W' 31 9 5 0 Tryd.underlying31 Tryd.underlying5 Tryd.underlying9
  · refine run_convert_bytes_back (P := Tryd.prog) W' 31 9 5 ⟨g, 0, none⟩ cap l Tryd.underlying31 Tryd.underlying5 Tryd.underlying9 (fun j hj => ?_)
    have hc := h.cellAt j (by omega)
    rw [add_zero]
    refine cell_later hb (hc.trans ?_)
    simp [Lib.byteCells, hj]
theorem joined (x : List UInt8) : (x == (⟨x.toArray⟩ : ByteArray).toList) = true := by
  rw [Lib.toList_data]
  simp
/-- what a copy hands to the loop -/
def CL (w1 : World) (A : Option Addr) (n d : Nat) (f : Nat → ByteArray) : Prop := SRow w1 A n f ∧ (0 < n → ∃ bk, A = some ⟨bk, 0, none⟩ ∧ bk < w1.heap.size) ∧ (n ≤ d ∨ n = 0)
theorem cl_of {w w1 : World} {a A : Option Addr} {n c d : Nat} {f : Nat → ByteArray} (R : SRow w1 A n f) (h0 : a = none → n = 0 ∧ c = 0) (h1 : a.isNone = false → A = some ⟨w.heap.size, 0, none⟩ ∧ d = n) : CL w1 A n d f := by
  cases a with
  | none => exact ⟨R, fun h => by have := (h0 rfl).1; omega, .inr (h0 rfl).1⟩
  | some x =>
    obtain ⟨rfl, rfl⟩ := h1 rfl
    refine ⟨R, fun h => ⟨_, rfl, ?_⟩, .inl (Nat.le_refl _)⟩
    obtain ⟨y, hy, hc⟩ := R 0 h
    injection hy with hy
    have := World.block_lt_of_cell? w1 _ hc
    rw [add_block, ← hy] at this
    exact this
theorem own_step {W : World} {B k : Nat} {v : Value} {f : Nat → ByteArray} {sp : ByteArray} (h : W.ownsRow B 5 1 v ((jn f sp.data.toList k).length + sp.size + (f k).size) (Lib.byteCells (jn f sp.data.toList k) ++ Lib.strCells sp ++ Lib.strCells (f k))) (hk : 0 < k) :
    W.ownsRow B 5 1 v (jn f sp.data.toList (k + 1)).length (Lib.byteCells (jn f sp.data.toList (k + 1))) := by
  have e1 : sp.data.toList.length = sp.size := by simp
  have e2 : (f k).data.toList.length = (f k).size := by simp
  rw [jn_succ _ _ _ hk, byteCells_app, byteCells_app, List.length_append, List.length_append, e1, e2]
  exact h
theorem own_first {W : World} {B : Nat} {v : Value} {f : Nat → ByteArray} {sp : ByteArray} (h : W.ownsRow B 5 1 v ((jn f sp.data.toList 0).length + (f 0).size) (Lib.byteCells (jn f sp.data.toList 0) ++ Lib.strCells (f 0))) :
    W.ownsRow B 5 1 v (jn f sp.data.toList (0 + 1)).length (Lib.byteCells (jn f sp.data.toList (0 + 1))) := by
  have e2 : (f 0).data.toList.length = (f 0).size := by simp
  show W.ownsRow B 5 1 v (f 0).data.toList.length (Lib.byteCells (f 0).data.toList)
  rw [e2]
  simpa [jn, Lib.byteCells, byteCells_str] using h
set_option maxRecDepth 100000 in
set_option maxHeartbeats 4000000 in
theorem late (s : ByteArray) (a : Option Addr) (n c : Nat) (f : Nat → ByteArray) (w : World) (hs : s.size ≤ 9223372036854775807) (h : SRow w a n f) (h0 : a = none → n = 0 ∧ c = 0) (hf : ∀ i, i < n → (f i).size ≤ 9223372036854775807) (hn : n ≤ 9223372036854775807) (hT : Lib.Utf8Tabs 1 2 w) :
    Calls Tryd.prog 4 #[.string s, .slice a n c] w fun e w' => e = .returned (.bool true) ∧ Below w.heap.size w w' := by
  have H := Lib.hid h
  have H0 := Lib.hid h0
  have HF := Lib.hid hf
  have HT := Lib.hid hT
  clear h h0 hf hT
  obtain ⟨ib, hi, hz0, hz1, hz2⟩ := info_parts info5
  obtain ⟨sp, hsp'⟩ : ∃ sp, Hid (sp = sepOf s) := ⟨_, Lib.hid rfl⟩
  have hsp4 : sp.size ≤ 4 := by rw [hsp'.out]; exact sepOf_le4 s
  have hcase : (s.size = 0 ∧ (⟨#[]⟩ : ByteArray) = sp) ∨ (0 < s.size ∧ s.extract 0 (Utf8.decode s 0).2 = sp) := by
    rcases Nat.eq_zero_or_pos s.size with h | h
    · exact .inl ⟨h, by rw [hsp'.out, sepOf_zero s h]⟩
    · exact .inr ⟨h, by rw [hsp'.out, sepOf_pos s h]⟩
  rcases hcase with ⟨z0, he⟩ | ⟨z0, he⟩
  · have zi : ¬ (0 : Int) < (s.size : Int) := by omega
    have HE := Lib.hid he
    clear he
    go_enter Tryd.func4, Tryd.ntmps4
    go_upto_region 9 with (first
      | (go_at_call 9; refine (bytes_any _ _ _ _ f _ H.out HF.out hn hs).mono ?_; rintro e w' ⟨x, rfl, hx, rfl⟩; have HX := Lib.hid hx; clear hx; cases x)
      | (go_at_call 10; refine (bytesOf_any _ _ _ f _ H.out (HX.out rfl).2.2.2 (HX.out rfl).2.1).mono ?_; rintro e w' ⟨r, rfl, hr, rfl⟩; have m1 := (HX.out rfl).1; by_cases hbig : 1048576 < s.size + r)
      | (go_at_call 11; refine (ICS.clone_any _ _ _ f _ H.out H0.out (HX.out rfl).2.1).mono ?_; rintro e w1 ⟨A1, d1, rfl, hi1, R1, hs1, hno1, hb1⟩
         have HCL : Hid (CL w1 A1 n d1 f) := Lib.hid (cl_of R1 H0.out hs1); have HB1 := Lib.hid hb1; clear R1 hb1 hi1 hs1 hno1))
    all_goals try (go_ret; exact ⟨rfl, Below.refl _ _⟩)
    rw [HE.out]
    have HT1 : Hid (Lib.Utf8Tabs 1 2 w1) := Lib.hid (Utf8Tabs_below HT.out HB1.out)
    have HSM := Lib.hid (HX.out rfl)
    clear HT H H0 HF
    go_wp2
    go_loopw [6, 7] (fun vb vi wr => ∃ k : Nat, k ≤ n ∧ vi = .int .i64 k ∧ wr.ownsRow w1.heap.size 5 1 vb (jn f sp.data.toList k).length (Lib.byteCells (jn f sp.data.toList k)) ∧ Below w1.heap.size w1 wr) (fun _ vi _ => n - (intOf vi).toNat)
    case atStart => exact ⟨0, Nat.zero_le _, rfl, World.ownsRow_nil _ _ _ _, Below.refl _ _⟩
    case round =>
      obtain ⟨k, hk, rfl, hown, hb⟩ := hrel
      have HO := Lib.hid hown
      have HB := Lib.hid hb
      have hnS := HSM.out.2.1
      have hbase : w1.heap.size ≤ wr.heap.size := hb.size
      by_cases hlt : k < n
      · obtain ⟨y, rfl, hc⟩ := (HCL.out.1.below hb) k hlt
        have hsz := HSM.out.2.2.2 k hlt
        have hjl := jn_len f sp.data.toList (by simpa using hsp4) k
        have hsl := sumL_le f k n hk
        have hsL := HSM.out.2.2.1
        have i0 : (0 : Int) ≤ (k : Int) := by omega
        have i1 : (k : Int) < (n : Int) := by omega
        clear hown hb
        by_cases hk0 : k = 0
        · subst hk0
          have hc0 : wr.cell? y = some (.string (f 0)) := by rw [← add_nil y]; exact hc
          go_wp2_with (at_builtin; go_must (refine Lib.wpList_append_own_string _ rfl _ _ 31 9 rfl w1.heap.size 5 ib Tryd.underlying31 Tryd.underlying9 hi hz0 hz1 hz2 _ _ _ rfl HO.out (f 0) rfl (by unfold maxLen; omega) (by omega) hbase ?_); intro v3 w3 ho3 hg3 hn3)
          go_roundw
          case rel => exact ⟨0 + 1, by omega, by go_num, own_first ho3, HB.out.grown hg3 hbase (fun j hj => (HO.out.lt j hj).1)⟩
          case measure => simp [intOf]; omega
        · have hkp : 0 < k := by omega
          have i2 : (0 : Int) < (k : Int) := by omega
          have tok : True := trivial
          go_wp2_with (first
            | (at_builtin; have _t := tok; refine Lib.wpList_append_own_string _ rfl _ _ 31 9 rfl w1.heap.size 5 ib Tryd.underlying31 Tryd.underlying9 hi hz0 hz1 hz2 _ _ _ rfl HO.out sp rfl (by unfold maxLen; omega) (by omega) hbase ?_; intro v3 w3 ho3 hg3 hn3; clear _t tok
               have HO3 := Lib.hid ho3
               have HB3 := Lib.hid (HB.out.grown hg3 hbase (fun j hj => (HO.out.lt j hj).1))
               have hc3 : w3.cell? (y.add k) = some (.string (f k)) := by
                 obtain ⟨y2, hy2, hc2⟩ := (HCL.out.1.below HB3.out) k hlt
                 injection hy2 with hy2
                 subst hy2
                 exact hc2
               have hbase3 : w1.heap.size ≤ w3.heap.size := HB3.out.size
               clear ho3 hg3 hn3)
            | (at_builtin; refine Lib.wpList_append_own_string _ rfl _ _ 31 9 rfl w1.heap.size 5 ib Tryd.underlying31 Tryd.underlying9 hi hz0 hz1 hz2 _ _ _ rfl HO3.out (f k) rfl (by unfold maxLen; omega) (by omega) hbase3 ?_; intro v4 w4 ho4 hg4 hn4))
          go_roundw
          case rel => exact ⟨k + 1, by omega, by go_num, own_step ho4 hkp, HB3.out.grown hg4 hbase3 (fun j hj => (HO3.out.lt j hj).1)⟩
          case measure => simp [intOf]; omega
      · obtain rfl : k = n := by omega
        have hC := fun (W' : World) (hb' : Below wr.heap.size wr W') => And.intro hb' (conv_of hown rfl W' hb')
        have HC := Lib.hid hC
        have HT2 : Hid (Lib.Utf8Tabs 1 2 wr) := Lib.hid (Utf8Tabs_below HT1.out hb)
        have HR2 : Hid (SRow wr A1 k f) := Lib.hid (HCL.out.1.below hb)
        clear hown hb hC
        go_upto_region 16 with fail
        go_region_held3 (fun W => Below wr.heap.size wr W ∧ (convert 31 9 u6).run Tryd.prog W = .ok (.string ⟨(jn f sp.data.toList k).toArray⟩) W)
          (first | exact HC.out _ (Below.refl _ _).drew | exact HC.out _ ‹Below wr.heap.size wr _›)
          (first
            | (go_at_call 14; go_split_ands; refine (config_any s _).mono ?_; rintro e w5 ⟨rfl, hc5, hz5, hb5⟩; have hbt5 : Below wr.heap.size wr w5 := Below.trans ‹Below wr.heap.size wr _› (hb5.mono (Below.size ‹Below wr.heap.size wr _›)); clear hb5)
            | (go_at_call 13; have hz := zjoin_any s f _ k d1 A1 _ (Utf8Tabs_below HT2.out hbt5) hc5 m1 (HR2.out.below hbt5) (fun h => by obtain ⟨bk, h1, h2⟩ := HCL.out.2.1 h; exact ⟨bk, h1, Nat.lt_of_lt_of_le h2 (Nat.le_trans hbase hbt5.size)⟩) HCL.out.2.2 hnS HSM.out.2.2.1; unfold Joined at hz; rw [← hsp'.out] at hz; refine hz.mono ?_; rintro e w6 ⟨rfl, hb6⟩; have hbt6 : Below wr.heap.size wr w6 := Below.trans hbt5 (hb6.mono hbt5.size); clear hb6 hz))
        all_goals
          go_wp2
          go_ret
          exact ⟨rfl, (HB1.out.trans (HB.out.mono HB1.out.size)).trans (Below.mono ‹Below wr.heap.size wr _› (Nat.le_trans HB1.out.size hbase))⟩
  · have zi : (0 : Int) < (s.size : Int) := by omega
    have zle := size_le s z0
    have zli : ((Utf8.decode s 0).2 : Int) ≤ (s.size : Int) := by omega
    have HE := Lib.hid he
    clear he
    go_enter Tryd.func4, Tryd.ntmps4
    go_upto_region 9 with (first
      | (go_at_call 9; refine (bytes_any _ _ _ _ f _ H.out HF.out hn hs).mono ?_; rintro e w' ⟨x, rfl, hx, rfl⟩; have HX := Lib.hid hx; clear hx; cases x)
      | (go_at_call 10; refine (bytesOf_any _ _ _ f _ H.out (HX.out rfl).2.2.2 (HX.out rfl).2.1).mono ?_; rintro e w' ⟨r, rfl, hr, rfl⟩; have m1 := (HX.out rfl).1; by_cases hbig : 1048576 < s.size + r)
      | (go_at_call 12; refine (first_any s _ z0 (HX.out rfl).1).mono ?_; rintro e w' ⟨rfl, rfl⟩)
      | (go_at_call 11; refine (ICS.clone_any _ _ _ f _ H.out H0.out (HX.out rfl).2.1).mono ?_; rintro e w1 ⟨A1, d1, rfl, hi1, R1, hs1, hno1, hb1⟩
         have HCL : Hid (CL w1 A1 n d1 f) := Lib.hid (cl_of R1 H0.out hs1); have HB1 := Lib.hid hb1; clear R1 hb1 hi1 hs1 hno1))
    all_goals try (go_ret; exact ⟨rfl, Below.refl _ _⟩)
    rw [HE.out]
    have HT1 : Hid (Lib.Utf8Tabs 1 2 w1) := Lib.hid (Utf8Tabs_below HT.out HB1.out)
    have HSM := Lib.hid (HX.out rfl)
    clear HT H H0 HF
    go_wp2
    go_loopw [6, 7] (fun vb vi wr => ∃ k : Nat, k ≤ n ∧ vi = .int .i64 k ∧ wr.ownsRow w1.heap.size 5 1 vb (jn f sp.data.toList k).length (Lib.byteCells (jn f sp.data.toList k)) ∧ Below w1.heap.size w1 wr) (fun _ vi _ => n - (intOf vi).toNat)
    case atStart => exact ⟨0, Nat.zero_le _, rfl, World.ownsRow_nil _ _ _ _, Below.refl _ _⟩
    case round =>
      obtain ⟨k, hk, rfl, hown, hb⟩ := hrel
      have HO := Lib.hid hown
      have HB := Lib.hid hb
      have hnS := HSM.out.2.1
      have hbase : w1.heap.size ≤ wr.heap.size := hb.size
      by_cases hlt : k < n
      · obtain ⟨y, rfl, hc⟩ := (HCL.out.1.below hb) k hlt
        have hsz := HSM.out.2.2.2 k hlt
        have hjl := jn_len f sp.data.toList (by simpa using hsp4) k
        have hsl := sumL_le f k n hk
        have hsL := HSM.out.2.2.1
        have i0 : (0 : Int) ≤ (k : Int) := by omega
        have i1 : (k : Int) < (n : Int) := by omega
        clear hown hb
        by_cases hk0 : k = 0
        · subst hk0
          have hc0 : wr.cell? y = some (.string (f 0)) := by rw [← add_nil y]; exact hc
          go_wp2_with (at_builtin; go_must (refine Lib.wpList_append_own_string _ rfl _ _ 31 9 rfl w1.heap.size 5 ib Tryd.underlying31 Tryd.underlying9 hi hz0 hz1 hz2 _ _ _ rfl HO.out (f 0) rfl (by unfold maxLen; omega) (by omega) hbase ?_); intro v3 w3 ho3 hg3 hn3)
          go_roundw
          case rel => exact ⟨0 + 1, by omega, by go_num, own_first ho3, HB.out.grown hg3 hbase (fun j hj => (HO.out.lt j hj).1)⟩
          case measure => simp [intOf]; omega
        · have hkp : 0 < k := by omega
          have i2 : (0 : Int) < (k : Int) := by omega
          have tok : True := trivial
          go_wp2_with (first
            | (at_builtin; have _t := tok; refine Lib.wpList_append_own_string _ rfl _ _ 31 9 rfl w1.heap.size 5 ib Tryd.underlying31 Tryd.underlying9 hi hz0 hz1 hz2 _ _ _ rfl HO.out sp rfl (by unfold maxLen; omega) (by omega) hbase ?_; intro v3 w3 ho3 hg3 hn3; clear _t tok
               have HO3 := Lib.hid ho3
               have HB3 := Lib.hid (HB.out.grown hg3 hbase (fun j hj => (HO.out.lt j hj).1))
               have hc3 : w3.cell? (y.add k) = some (.string (f k)) := by
                 obtain ⟨y2, hy2, hc2⟩ := (HCL.out.1.below HB3.out) k hlt
                 injection hy2 with hy2
                 subst hy2
                 exact hc2
               have hbase3 : w1.heap.size ≤ w3.heap.size := HB3.out.size
               clear ho3 hg3 hn3)
            | (at_builtin; refine Lib.wpList_append_own_string _ rfl _ _ 31 9 rfl w1.heap.size 5 ib Tryd.underlying31 Tryd.underlying9 hi hz0 hz1 hz2 _ _ _ rfl HO3.out (f k) rfl (by unfold maxLen; omega) (by omega) hbase3 ?_; intro v4 w4 ho4 hg4 hn4))
          go_roundw
          case rel => exact ⟨k + 1, by omega, by go_num, own_step ho4 hkp, HB3.out.grown hg4 hbase3 (fun j hj => (HO3.out.lt j hj).1)⟩
          case measure => simp [intOf]; omega
      · obtain rfl : k = n := by omega
        have hC := fun (W' : World) (hb' : Below wr.heap.size wr W') => And.intro hb' (conv_of hown rfl W' hb')
        have HC := Lib.hid hC
        have HT2 : Hid (Lib.Utf8Tabs 1 2 wr) := Lib.hid (Utf8Tabs_below HT1.out hb)
        have HR2 : Hid (SRow wr A1 k f) := Lib.hid (HCL.out.1.below hb)
        clear hown hb hC
        go_upto_region 16 with fail
        go_region_held3 (fun W => Below wr.heap.size wr W ∧ (convert 31 9 u6).run Tryd.prog W = .ok (.string ⟨(jn f sp.data.toList k).toArray⟩) W)
          (first | exact HC.out _ (Below.refl _ _).drew | exact HC.out _ ‹Below wr.heap.size wr _›)
          (first
            | (go_at_call 14; go_split_ands; refine (config_any s _).mono ?_; rintro e w5 ⟨rfl, hc5, hz5, hb5⟩; have hbt5 : Below wr.heap.size wr w5 := Below.trans ‹Below wr.heap.size wr _› (hb5.mono (Below.size ‹Below wr.heap.size wr _›)); clear hb5)
            | (go_at_call 13; have hz := zjoin_any s f _ k d1 A1 _ (Utf8Tabs_below HT2.out hbt5) hc5 m1 (HR2.out.below hbt5) (fun h => by obtain ⟨bk, h1, h2⟩ := HCL.out.2.1 h; exact ⟨bk, h1, Nat.lt_of_lt_of_le h2 (Nat.le_trans hbase hbt5.size)⟩) HCL.out.2.2 hnS HSM.out.2.2.1; unfold Joined at hz; rw [← hsp'.out] at hz; refine hz.mono ?_; rintro e w6 ⟨rfl, hb6⟩; have hbt6 : Below wr.heap.size wr w6 := Below.trans hbt5 (hb6.mono hbt5.size); clear hb6 hz))
        all_goals
          go_wp2
          go_ret
          exact ⟨rfl, (HB1.out.trans (HB.out.mono HB1.out.size)).trans (Below.mono ‹Below wr.heap.size wr _› (Nat.le_trans HB1.out.size hbase))⟩
set_option maxHeartbeats 1000000 in
theorem walk (a0 : ByteArray) (a1 : Option Addr) (len1 cap1 : Nat) (z1 : List ByteArray) (w : World) (w0 : a0.size ≤ maxLen) (w1 : IsStrs w a1 len1 cap1 z1) (hL : laidMetH Tryd.prog Rows.fnIfsJoinModelRow.laid w) :
    Calls Tryd.prog 4 #[.string a0, .slice a1 len1 cap1] w fun e w' => e = .returned (.bool true) ∧ Below w.heap.size w w' := by
  unfold maxLen at w0
  obtain ⟨r1, q1, s1, b1⟩ := strs_row w1
  exact late a0 a1 len1 cap1 _ w w0 r1 q1 s1 b1 (tabs hL)

/-! ### THE ROW's STEP: WRITTEN OUT: LEAVE IT -/
set_option maxRecDepth 100000 in
theorem lifted (os : Os) (started : os.Started) (H : Type) (enc : TypeId × Value → H) :
    ReturnsInHanded {} Tryd.checked os 4 .any (fun w args => (Rows.fnIfsJoinModelSpec.pre enc Tryd.prog Tryd.f4 [] false w args ∧ laidMetH Tryd.prog Rows.fnIfsJoinModelRow.laid w) ∧ sizedMet enc Tryd.prog Tryd.f4 (OpenSpec.ofChange Rows.fnIfsJoinModelSpec) false w args) (Rows.fnIfsJoinModelSpec.post enc Tryd.prog Tryd.f4 false true false false) := by
  refine returnsInHanded_of_change_and (C := Tryd.checked) (X := fun w _ => laidMetH Tryd.prog Rows.fnIfsJoinModelRow.laid w) (fun _ _ _ hh h => h.of_heap hh) own started (by kernel_rfl) Tryd.func4
    (ChangeSpec.witness_shaped (enc := enc) (C := Tryd.checked) (os := os) (X := fun w _ => laidMetH Tryd.prog Rows.fnIfsJoinModelRow.laid w) false (World.laidAll Tryd.prog os Rows.fnIfsJoinModelRow.laid) #[.string ByteArray.empty, .slice none 0 0] 8 (World.laidAll_os _ _ _) (World.shaped_of_ZipB (by kernel_rfl) (by kernel_rfl)) (by kernel_rfl) (by kernel_rfl) (by kernel_rfl) (by rw [MakeChecks.laidMetH_plain _ _ _ (by kernel_rfl)]; exact laidMet_laidAll _ (by kernel_rfl) (by kernel_rfl))) ?_
  intro W base args ds gs before hval0 hW _ _ hL _
  have hval : ∀ (j : Nat) t v, Tryd.f4.params[j]? = some t → args[j]? = some v → Value.okWide Tryd.prog W .any base t v := hval0
  have hW' := hW
  obtain ⟨p, q, hA0, hV, rfl, hfz, hnd⟩ := hW
  have hA : DataW.TrodAll enc Tryd.prog W 0 (fun _ => true) true Tryd.f4.params.toList args.toList ds p := hA0
  rw [Tryd.params4] at hA hval
  obtain ⟨v0, vs0, d0, ds0, p0, q0, hargs, rfl, rfl, h0, r0⟩ := trodAll_cons hA
  obtain ⟨v1, vs1, d1, ds1, p1, q1, rfl, rfl, rfl, h1, r1⟩ := trodAll_cons r0
  obtain ⟨rfl, rfl, rfl⟩ := trodAll_nil r1
  obtain rfl : args = #[v0, v1] := by cases args; simp_all
  obtain ⟨rfl, rfl⟩ := trodVars_none hV
  obtain ⟨a0, rfl, rfl, rfl, w0⟩ := open_string Tryd.underlying9 (hval 0 9 v0 rfl rfl) h0
  obtain ⟨a1, len1, cap1, rfl⟩ := okWide_slice Tryd.underlying26 (hval 1 26 v1 rfl rfl)
  have k1 := h1
  have lt1 : ∀ x ∈ p1, x.block < W.heap.size := by obtain ⟨m, hm⟩ := k1; exact DataW.trod_lt m _ _ _ hm
  obtain ⟨z1, w1⟩ : ∃ zs, IsStrs W a1 len1 cap1 zs := by
    obtain ⟨fuel, hf⟩ := h1
    rcases open_strings Tryd.underlying26 Tryd.underlying9 (by kernel_rfl) hf with ⟨hcs, _⟩ | ⟨x, l, c, zs, hcs, _, hl, hm, hz, _, hcell, hwz⟩
    · simp [Value.cells] at hcs
      obtain ⟨rfl, rfl, rfl⟩ := hcs
      exact ⟨[], .inl ⟨rfl, rfl, rfl, rfl⟩⟩
    · simp [Value.cells] at hcs
      obtain ⟨rfl, rfl, rfl⟩ := hcs
      exact ⟨zs, .inr ⟨_, rfl, hl, hm, by simpa using hz, hcell, hwz⟩⟩
  clear hA0 hval0
  refine (walk a0 a1 len1 cap1 z1 W w0 w1 hL).mono fun e W' ⟨he, bel⟩ => ?_
  subst he
  exact ⟨_, rfl, _, _, _, [], _, [], hW', trodAll_mk1 (shut_bool Tryd.underlying4 _), (trodAll_cons_mk (shut_string Tryd.underlying9 w0) (trodAll_cons_mk (Below.trod laidOut (by kernel_rfl) (of_decide_eq_true (by kernel_rfl)) k1 bel lt1) trodAll_mk0)), rfl, bel.frame _, fun h => by cases h⟩

theorem over : Rows.fnIfsJoinModelRow.holds Tryd.pinned (OpenSpec.ofChange Rows.fnIfsJoinModelSpec) :=
  OpenClaim.holds_of_wide 4 Tryd.f4 rfl rfl rfl rfl rfl rfl rfl ⟨rfl, rfl, rfl, rfl, rfl⟩ rfl rfl rfl rfl rfl (by kernel_rfl) Tryd.func4 (by kernel_rfl)
    (of_decide_eq_true (by kernel_rfl)) (by unfold Func.isWrapper; first | (rw [if_pos (by decide +kernel)]; kernel_rfl) | (rw [if_neg (by decide +kernel)]; exact ⟨rfl, rfl⟩))
    (fun os started H enc _ => lifted os started H enc)

/-- ████ THE STATEMENT ████ -/
theorem proved : Rows.FnIfsJoinModelSaid := over
/-- no parameter wants a stand-in; the program's own looks are as the card has them -/
theorem plain (f : FuncId) (fn : Func) (hf : Tryd.pinned.checked.prog.funcNamed "mvdan.cc/sh/v3/n010_163.FnIfsJoinModel" = some f) (hfn : Tryd.pinned.checked.prog.funcs[f]? = some fn) :
    false = Tryd.pinned.checked.prog.looks [] ∧ ∀ (j : Nat) t, fn.params[j]? = some t → Tryd.pinned.checked.prog.wantsStandIn t = false := by
  obtain rfl : f = 4 := Option.some.inj ((show Tryd.prog.funcNamed "mvdan.cc/sh/v3/n010_163.FnIfsJoinModel" = some 4 by kernel_rfl).symm.trans hf) |>.symm
  obtain rfl : fn = Tryd.f4 := (Option.some.inj (Tryd.func4.symm.trans hfn)).symm
  refine ⟨by kernel_rfl, fun j t ht => ?_⟩
  rw [Tryd.params4] at ht
  have hm := Array.mem_of_getElem? ht
  simp only [List.mem_toArray, List.mem_cons, List.not_mem_nil, or_false] at hm
  first
    | (rcases hm with rfl | rfl | rfl | rfl | rfl | rfl <;> (show Tryd.prog.wantsStandIn _ = false; kernel_rfl))
    | (rcases hm with rfl | rfl | rfl | rfl | rfl <;> (show Tryd.prog.wantsStandIn _ = false; kernel_rfl))
    | (rcases hm with rfl | rfl | rfl | rfl <;> (show Tryd.prog.wantsStandIn _ = false; kernel_rfl))
    | (rcases hm with rfl | rfl | rfl <;> (show Tryd.prog.wantsStandIn _ = false; kernel_rfl))
    | (rcases hm with rfl | rfl <;> (show Tryd.prog.wantsStandIn _ = false; kernel_rfl))
    | (subst hm; show Tryd.prog.wantsStandIn _ = false; kernel_rfl)
theorem card : Rows.FnIfsJoinModelCardSaid :=
  Claim7.holds_tied_plain_at .later [] _ _ _ _ proved (fun _ h => by cases h) (by kernel_rfl) (fun _ h => by cases h) fnIfsJoinModel_row_tie rfl ⟨rfl, rfl⟩ (by kernel_rfl) rfl plain (by kernel_rfl)
#print axioms card
end Go.Proofs.YtdiimpggoejphaaDoor.fnIfsJoinModel
