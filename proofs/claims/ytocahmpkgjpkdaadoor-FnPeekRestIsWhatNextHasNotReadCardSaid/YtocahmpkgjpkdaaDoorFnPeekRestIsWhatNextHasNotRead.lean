/- Proved here: what peekRest shows is the text behind the runes that next has read, for every valid text without NUL (FnPeekRestIsWhatNextHasNotRead returns true), with the decoder's tables as the program's text lays them (the tied card). No other conditions. -/
import Derived.Test.YtocahmpkgjpkdaaDoorRows
import Derived.WalkKit
import Derived.Test.YtocahmpkgjpkdaaDoorCards
import Derived.Test.YtocahmpkgjpkdaaDoorTie
import Derived.LaidMore
import Derived.Stop.Joined
import Derived.Lib.Hide
import Derived.Lay
import Derived.Test.YtocahmpkgjpkdaaDoorAr
import Derived.Test.YtocahmpkgjpkdaaDoorPStep
import Derived.Test.YtocahmpkgjpkdaaDoorPLx
import Derived.Lib.LaidU8
import Derived.BigQuiet
import Derived.Lib.BufferRead
import Derived.Deep.DeepCutAuto
import Derived.Lib.Strings
import Derived.Deep.RegionHeld3
import Derived.Deep.AppendLies
import Derived.ProofKit
import Derived.Below
import Derived.OpenShut
import Derived.ShutString
namespace Go.Proofs.YtocahmpkgjpkdaaDoor.fnPeekRestIsWhatNextHasNotRead
open Go.ChangeShapes Go.WideShapes Go.ChangeAt Go.RowKit
open Go.ChangeMaps (open_string shut_string)
set_option linter.unusedVariables false      -- a walk need not use every 'w<i>' (that an integer argument fits its kind)

theorem own : ownKnob Tryd.prog.godebug = none := by kernel_rfl

/-! ### STEP 1: THE WALK: the Go text returns true. 'Below w.heap.size w w'': the world has at most new blocks (Derived/RowKit3.lean). Part the cases AHEAD of 'go_enter' where a test parts the walk; take each callee by a contract of your own. -/
open PK
theorem tabs {w : World} (hL : laidMetH Tryd.prog Rows.fnPeekRestIsWhatNextHasNotReadRow.laid w) : Lib.Utf8Tabs 0 1 w := by
  have hL' : laidMet Tryd.prog [("unicode/utf8.acceptRanges", Rows.laid_unicode_utf8_acceptRanges), ("unicode/utf8.first", Rows.laid_unicode_utf8_first)] w :=
    show laidMet Tryd.prog [("unicode/utf8.acceptRanges", Rows.laid_unicode_utf8_acceptRanges), ("unicode/utf8.first", Rows.laid_unicode_utf8_first)] w from hL
  have h4 : Lib.VarReads Tryd.prog w "unicode/utf8.acceptRanges" Lib.acceptData := (show (Rows.laid_unicode_utf8_acceptRanges : DataW Unit) = Lib.acceptData by kernel_rfl) ▸ Lib.laidMet.reads hL' (.head _)
  have h3 : Lib.VarReads Tryd.prog w "unicode/utf8.first" Lib.firstData := (show (Rows.laid_unicode_utf8_first : DataW Unit) = Lib.firstData by kernel_rfl) ▸ Lib.laidMet.reads hL' (.tail _ (.head _))
  exact utf8Tabs_of_reads Tryd.lays260 ⟨by kernel_rfl, by kernel_rfl, by kernel_rfl, by kernel_rfl, by kernel_rfl, by kernel_rfl, by kernel_rfl⟩ h3 h4
theorem add_zero (g j : Nat) : (⟨g, 0, none⟩ : Addr).add j = ⟨g, j, none⟩ := by unfold Addr.add; split <;> simp_all
/-- the text of the owned bytes -/
theorem conv_of {W : World} {B z : Nat} {v : Value} {l : List UInt8} (h : W.ownsRow B 5 1 v z (Lib.byteCells l)) (hz : z = l.length) (W' : World) (hb : Below W.heap.size W W') :
    (convert 25 9 v).run Tryd.prog W' = .ok (.string ⟨l.toArray⟩) W' := by
  subst hz
  rcases h.2 with ⟨rfl, h0⟩ | ⟨g, cap, cur, rfl, hg, hh, hn, hm, hcs, hxs⟩
  · have : l = [] := List.eq_nil_of_length_eq_zero h0
    subst this
    exact Lib.run_convert_nil_bytes W' 25 9 5 0 Tryd.underlying25 Tryd.underlying5 Tryd.underlying9
  · refine run_convert_bytes_back (P := Tryd.prog) W' 25 9 5 ⟨g, 0, none⟩ cap l Tryd.underlying25 Tryd.underlying5 Tryd.underlying9 (fun j hj => ?_)
    have hc := h.cellAt j (by omega)
    rw [add_zero]
    refine cell_later hb (hc.trans ?_)
    simp [Lib.byteCells, hj]
theorem own_later {w w' : World} {B n : Nat} {v : Value} {xs : List Value} (h : w.ownsRow B 5 1 v n xs) (hb : Below w.heap.size w w') : w'.ownsRow B 5 1 v n xs := by
  refine ⟨h.1, ?_⟩
  rcases h.2 with h2 | ⟨g, cap, cur, hv, hg, hh, r⟩
  · exact .inl h2
  · exact .inr ⟨g, cap, cur, hv, hg, (hb.block g (Array.getElem?_eq_some_iff.1 hh).1).trans hh, r⟩
theorem own_grown {w w' : World} {B n b : Nat} {v : Value} {xs : List Value} (h : w.ownsRow B 5 1 v n xs) (hg : w.grownBy w' (some b)) (hbB : b < B) : w'.ownsRow B 5 1 v n xs := by
  refine ⟨h.1, ?_⟩
  rcases h.2 with h2 | ⟨g, cap, cur, hv, hgB, hh, r⟩
  · exact .inl h2
  · exact .inr ⟨g, cap, cur, hv, hgB, (hg.block g (Array.getElem?_eq_some_iff.1 hh).1 (fun e => by injection e with e; omega)).trans hh, r⟩
theorem own_form {w : World} {B n : Nat} {v : Value} {xs : List Value} (h : w.ownsRow B 5 1 v n xs) : ∃ ao cap, v = .slice ao n cap := by
  rcases h.2 with ⟨rfl, rfl⟩ | ⟨g, cap, cur, rfl, _⟩
  · exact ⟨_, _, rfl⟩
  · exact ⟨_, _, rfl⟩
/-- the row is not the lexer -/
theorem lx_grown {w w' : World} {B n b i : Nat} {v : Value} {s : ByteArray} {xs : List Value} (h : Lx b s i w) (ho : w.ownsRow B 5 1 v n xs) (hg : w.grownBy w' v.ownBlock) (hbB : b < B) : Lx b s i w' := by
  have hne : some b ≠ v.ownBlock := fun e => by have := (ho.lt b e.symm).1; omega
  exact ⟨hg.cell h.1 hne, hg.cell h.2.1 hne, (hg.frozen_far ⟨b, 1, none⟩ h.2.2.2 hne).trans h.2.2.1, Nat.lt_of_lt_of_le h.2.2.2 hg.size⟩
theorem info5 : (Tryd.prog.info? 5).map (fun i => (i.zero, i.size, i.bytes)) = some (some (.int .u8 0), 1, 1) := by kernel_rfl
set_option maxRecDepth 100000 in
set_option maxHeartbeats 8000000 in
theorem good (s : ByteArray) (w : World) (hs : s.size ≤ 1048576) (hT : Lib.Utf8Tabs 0 1 w) : Calls Tryd.prog 3 #[.string s] w fun e w' => e = .returned (.bool true) ∧ Below w.heap.size w w' := by
  have HT := Lib.hid hT
  clear hT
  have h1 : ¬ (1048576 : Int) < (s.size : Int) := by omega
  obtain ⟨ib, hi, hz0, hz1, hz2⟩ := info_parts info5
  go_enter Tryd.func3, Tryd.ntmps3
  go_wp2_with (first
    | (go_at_call 4; go_in)
    | (go_at_call 5; refine (valid_any s _ hs).mono ?_; rintro e w' ⟨x, rfl, hx, rfl⟩; have HV := Lib.hid hx; clear hx; cases x)
    | (go_at_call 6; refine (nul_any s _ hs).mono ?_; rintro e w' ⟨y, rfl, hy, rfl⟩; have HN := Lib.hid hy; clear hy; cases y)
    | (go_at_call 7; refine (new_any s _).mono ?_; rintro e w1 ⟨rfl, hl, hz, hb1⟩; have HLX := Lib.hid hl; have HB1 := Lib.hid hb1; clear hl hb1)
    | (at_make; go_must (refine wpList_make_own _ rfl _ _ _ rfl (w.heap.size + 1) 5 ib (.int .u8 0) 1 Tryd.underlying25 hi hz0 hz1 .i64 .i64 _ s.size rfl rfl rfl (by rw [hz2]; omega) (by unfold maxLen; omega) (by omega) ?_); intro w2 hown hgrow))
  all_goals try (go_ret; exact ⟨rfl, Below.refl _ _⟩)
  have HVV : Hid (Valid s) := Lib.hid (HV.out rfl)
  have HNN : Hid (NoNul s) := Lib.hid (HN.out rfl)
  have HB2 : Hid (Below w.heap.size w w2) := Lib.hid (HB1.out.grown hgrow HB1.out.size (fun k hk => by cases hk))
  have HL2 : Hid (Lx w.heap.size s 0 w2) := Lib.hid (HLX.out.below ((Below.refl _ _).grown hgrow (Nat.le_refl _) (fun k hk => by cases hk)))
  rw [hz] at hown
  have HO2 := Lib.hid hown
  clear hown hgrow HLX HB1 HV HN
  go_wp2
  go_loopw [4, 5] (fun vc vi wr => ∃ k : Nat, vi = .int .i64 k ∧ it s k ≤ s.size ∧ wr.ownsRow (w.heap.size + 1) 5 1 vc (it s k) (Lib.byteCells (s.data.toList.take (it s k))) ∧ Lx w.heap.size s (it s k) wr ∧ Below w.heap.size w wr) (fun _ vi _ => s.size + 1 - (intOf vi).toNat)
  case atStart => exact ⟨0, rfl, Nat.zero_le _, HO2.out, HL2.out, HB2.out⟩
  case round =>
    obtain ⟨k, rfl, hk, hown, hlx, hb⟩ := hrel
    obtain ⟨ao, cap, rfl⟩ := own_form hown
    have hge := it_ge s k
    have HIT := Lib.hid (it_succ s k)
    have HO := Lib.hid hown
    have HL := Lib.hid hlx
    have HB := Lib.hid hb
    have hbz : w.heap.size < wr.heap.size := hlx.2.2.2
    have i0 : (k : Int) ≤ (s.size : Int) := by omega
    have HG := Lib.hid (fun h => HVV.out.good k h)
    have HLE := Lib.hid (fun h => HVV.out.le k h)
    rw [HIT.out] at HLE
    clear hown hlx hb HO2 HL2 HB2
    generalize it s k = i at *
    have i1 : ¬ (s.size : Int) < (i : Int) := by omega
    have i2 : (i : Int) ≤ (s.size : Int) := by omega
    have i3 : (0 : Int) ≤ (i : Int) := by omega
    by_cases hend : i = s.size
    · subst hend
      have e0 : (s.extract s.size s.size).size = 0 := by simp
      have tok : True := trivial
      go_wp2_with (first
        | (have _t := tok; go_at_call 8; refine (rest_any _ s _ _ HL.out (Nat.le_refl _) hs).mono ?_; rintro e w3 ⟨rfl, hb3⟩; have HB3 := Lib.hid hb3; clear hb3 _t tok)
        | (go_at_call 9; refine (end_any _ s _ (HL.out.below HB3.out) hs).mono ?_; rintro e w4 ⟨rfl, hb4⟩; have HB4 := Lib.hid (HB3.out.trans (hb4.mono HB3.out.size)); clear hb4)
        | (go_at_call 8; refine (rest_any _ s _ _ (HL.out.below HB4.out) (Nat.le_refl _) hs).mono ?_; rintro e w5 ⟨rfl, hb5⟩; have HB5 := Lib.hid (HB4.out.trans (hb5.mono HB4.out.size)); have hcv := conv_of HO.out (by simp) w5 HB5.out; rw [take_all] at hcv; clear hb5))
      go_ret
      exact ⟨by simp, HB.out.trans (HB5.out.mono HB.out.size)⟩
    · have hlt : i < s.size := by omega
      have hg := HG.out hlt
      have hle := HLE.out hlt
      have hp := rune_pos s i hlt HNN.out
      have hrf := rune_facts s i
      have hcl := Lib.hid (cells_len s i hlt hg hle)
      have hcs := Lib.hid (cells_step s i hlt hg)
      have hw1 := width_pos s i
      have e0 : (s.extract i s.size).size = s.size - i := by simp
      have e1 : ¬ ((s.size - i : Nat) : Int) = 0 := by omega
      have e2 : (((Utf8.decode s i).1 : Int) == 0) = false := by simp; omega
      have HT2 : Hid (Lib.Utf8Tabs 0 1 wr) := Lib.hid (Utf8Tabs_below HT.out HB.out)
      go_wp2_with (first
        | (go_at_call 8; refine (rest_any _ s i _ HL.out hk hs).mono ?_; rintro e w3 ⟨rfl, hb3⟩; have HB3 := Lib.hid hb3; clear hb3)
        | (go_at_call 10; refine (peek_any _ s i _ (HL.out.below HB3.out) hlt hs (Utf8Tabs_below HT2.out HB3.out)).mono ?_; rintro e w4 ⟨rfl, hb4⟩; have HB4 := Lib.hid (HB3.out.trans (hb4.mono HB3.out.size)); clear hb4)
        | (go_at_call 9; refine (next_any _ s i _ (HL.out.below HB4.out) hlt hs (Utf8Tabs_below HT2.out HB4.out)).mono ?_; rintro e w5 ⟨rfl, hl5, hg5⟩; have HL5 := Lib.hid hl5; have HO5 := Lib.hid (own_grown (own_later HO.out HB4.out) hg5 (Nat.lt_succ_self _)); have HB5 := Lib.hid ((HB.out.trans (HB4.out.mono HB.out.size)).grown hg5 (Nat.le_trans HB.out.size HB4.out.size) (fun j hj => by injection hj with hj; omega)); clear hl5 hg5)
        | (go_at_call 11; refine (AR.any (w.heap.size + 1) _ i _ _ (by omega) (by omega) (by omega) _ HO5.out (by omega) (by have := HL5.out.2.2.2; omega)).mono ?_; rintro e w6 ⟨v6, rfl, ho6, oo, hg6⟩
           rw [hcs.out, hcl.out] at ho6
           have hgg := (World.grownBy_alloc w5 oo _).trans hg6
           have HL6 := Lib.hid (lx_grown HL5.out HO5.out hgg (Nat.lt_succ_self _))
           have HB6 := Lib.hid (HB5.out.grown hgg HB5.out.size (fun j hj => Nat.le_trans (Nat.le_succ _) (HO5.out.lt j hj).1))
           have HO6 := Lib.hid ho6
           obtain ⟨ao6, cap6, rfl⟩ := own_form ho6
           clear hgg hg6 ho6))
      go_roundw
      case rel => exact ⟨k + 1, by go_num, by rw [HIT.out]; exact hle, by rw [HIT.out]; exact HO6.out, by rw [HIT.out]; exact HL6.out, HB6.out⟩
      case measure => simp [intOf]; omega
set_option maxHeartbeats 1000000 in
theorem walk (a0 : ByteArray) (w0 : a0.size ≤ maxLen) (w : World) (hL : laidMetH Tryd.prog Rows.fnPeekRestIsWhatNextHasNotReadRow.laid w) :
    Calls Tryd.prog 3 #[.string a0] w fun e w' => e = .returned (.bool true) ∧ Below w.heap.size w w' := by
  unfold maxLen at w0
  by_cases h : a0.size ≤ 1048576
  · exact good a0 w h (tabs hL)
  · have i1 : (1048576 : Int) < (a0.size : Int) := by omega
    go_enter Tryd.func3, Tryd.ntmps3
    go_wp2_with (go_at_call 4; go_in)
    go_ret
    exact ⟨rfl, Below.refl _ _⟩

/-! ### THE ROW's STEP: WRITTEN OUT: LEAVE IT -/
set_option maxRecDepth 100000 in
theorem lifted (os : Os) (started : os.Started) (H : Type) (enc : TypeId × Value → H) :
    ReturnsInHanded {} Tryd.checked os 3 .any (fun w args => (Rows.fnPeekRestIsWhatNextHasNotReadSpec.pre enc Tryd.prog Tryd.f3 [] false w args ∧ laidMetH Tryd.prog Rows.fnPeekRestIsWhatNextHasNotReadRow.laid w) ∧ sizedMet enc Tryd.prog Tryd.f3 (OpenSpec.ofChange Rows.fnPeekRestIsWhatNextHasNotReadSpec) false w args) (Rows.fnPeekRestIsWhatNextHasNotReadSpec.post enc Tryd.prog Tryd.f3 false true false false) := by
  refine returnsInHanded_of_change_and (C := Tryd.checked) (X := fun w _ => laidMetH Tryd.prog Rows.fnPeekRestIsWhatNextHasNotReadRow.laid w) (fun _ _ _ hh h => h.of_heap hh) own started (by kernel_rfl) Tryd.func3
    (ChangeSpec.witness_shaped (enc := enc) (C := Tryd.checked) (os := os) (X := fun w _ => laidMetH Tryd.prog Rows.fnPeekRestIsWhatNextHasNotReadRow.laid w) false (World.laidAll Tryd.prog os Rows.fnPeekRestIsWhatNextHasNotReadRow.laid) #[.string ByteArray.empty] 8 (World.laidAll_os _ _ _) (World.shaped_of_ZipB (by kernel_rfl) (by kernel_rfl)) (by kernel_rfl) (by kernel_rfl) (by kernel_rfl) (by rw [MakeChecks.laidMetH_plain _ _ _ (by kernel_rfl)]; exact laidMet_laidAll _ (by kernel_rfl) (by kernel_rfl))) ?_
  intro W base args ds gs before hval0 hW _ _ hL _
  have hval : ∀ (j : Nat) t v, Tryd.f3.params[j]? = some t → args[j]? = some v → Value.okWide Tryd.prog W .any base t v := hval0
  have hW' := hW
  obtain ⟨p, q, hA0, hV, rfl, hfz, hnd⟩ := hW
  have hA : DataW.TrodAll enc Tryd.prog W 0 (fun _ => true) true Tryd.f3.params.toList args.toList ds p := hA0
  rw [Tryd.params3] at hA hval
  obtain ⟨v0, vs0, d0, ds0, p0, q0, hargs, rfl, rfl, h0, r0⟩ := trodAll_cons hA
  obtain ⟨rfl, rfl, rfl⟩ := trodAll_nil r0
  obtain rfl : args = #[v0] := by cases args; simp_all
  obtain ⟨rfl, rfl⟩ := trodVars_none hV
  obtain ⟨a0, rfl, rfl, rfl, w0⟩ := open_string Tryd.underlying9 (hval 0 9 v0 rfl rfl) h0
  clear hA0 hval0
  simp only [List.append_nil] at hW'
  refine (walk a0 w0 W hL).mono fun e W' ⟨he, bel⟩ => ?_
  subst he
  exact ⟨_, rfl, _, _, _, [], [], [], hW', (trodAll_cons_mk (shut_bool Tryd.underlying4 _) trodAll_mk0), (trodAll_cons_mk (shut_string Tryd.underlying9 w0) trodAll_mk0), rfl, bel.frame _, fun h => by cases h⟩

theorem over : Rows.fnPeekRestIsWhatNextHasNotReadRow.holds Tryd.pinned (OpenSpec.ofChange Rows.fnPeekRestIsWhatNextHasNotReadSpec) :=
  OpenClaim.holds_of_wide 3 Tryd.f3 rfl rfl rfl rfl rfl rfl rfl ⟨rfl, rfl, rfl, rfl, rfl⟩ rfl rfl rfl rfl rfl (by kernel_rfl) Tryd.func3 (by kernel_rfl)
    (of_decide_eq_true (by kernel_rfl)) (by unfold Func.isWrapper; first | (rw [if_pos (by decide +kernel)]; kernel_rfl) | (rw [if_neg (by decide +kernel)]; exact ⟨rfl, rfl⟩))
    (fun os started H enc _ => lifted os started H enc)

/-- ████ THE STATEMENT ████ -/
theorem proved : Rows.FnPeekRestIsWhatNextHasNotReadSaid :=
  over
/-- no parameter wants a stand-in; the program's own looks are as the card has them -/
theorem plain (f : FuncId) (fn : Func) (hf : Tryd.pinned.checked.prog.funcNamed "mvdan.cc/sh/v3/n010_127.FnPeekRestIsWhatNextHasNotRead" = some f) (hfn : Tryd.pinned.checked.prog.funcs[f]? = some fn) :
    false = Tryd.pinned.checked.prog.looks [] ∧ ∀ (j : Nat) t, fn.params[j]? = some t → Tryd.pinned.checked.prog.wantsStandIn t = false := by
  obtain rfl : f = 3 := Option.some.inj ((show Tryd.prog.funcNamed "mvdan.cc/sh/v3/n010_127.FnPeekRestIsWhatNextHasNotRead" = some 3 by kernel_rfl).symm.trans hf) |>.symm
  obtain rfl : fn = Tryd.f3 := (Option.some.inj (Tryd.func3.symm.trans hfn)).symm
  refine ⟨by kernel_rfl, fun j t ht => ?_⟩
  rw [Tryd.params3] at ht
  have hm := Array.mem_of_getElem? ht
  simp only [List.mem_toArray, List.mem_cons, List.not_mem_nil, or_false] at hm
  first
    | (rcases hm with rfl | rfl | rfl | rfl | rfl | rfl <;> (show Tryd.prog.wantsStandIn _ = false; kernel_rfl))
    | (rcases hm with rfl | rfl | rfl | rfl | rfl <;> (show Tryd.prog.wantsStandIn _ = false; kernel_rfl))
    | (rcases hm with rfl | rfl | rfl | rfl <;> (show Tryd.prog.wantsStandIn _ = false; kernel_rfl))
    | (rcases hm with rfl | rfl | rfl <;> (show Tryd.prog.wantsStandIn _ = false; kernel_rfl))
    | (rcases hm with rfl | rfl <;> (show Tryd.prog.wantsStandIn _ = false; kernel_rfl))
    | (subst hm; show Tryd.prog.wantsStandIn _ = false; kernel_rfl)
theorem card : Rows.FnPeekRestIsWhatNextHasNotReadCardSaid :=
  Claim7.holds_tied_plain_at .later [] _ _ _ _ proved (fun _ h => by cases h) (by kernel_rfl) (fun _ h => by cases h) fnPeekRestIsWhatNextHasNotRead_row_tie rfl ⟨rfl, rfl⟩ (by kernel_rfl) rfl plain (by kernel_rfl)
#print axioms card
end Go.Proofs.YtocahmpkgjpkdaaDoor.fnPeekRestIsWhatNextHasNotRead
