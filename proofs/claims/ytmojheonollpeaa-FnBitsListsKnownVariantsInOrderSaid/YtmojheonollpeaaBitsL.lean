/- The contracts of LangVariant.bits (a range over a function) and of the law's own collector zzBitsList: the known variants that share a bit, in their order. No conditions. -/
import Derived.Test.YtmojheonollpeaaRows
import Derived.RangeFuncBox
import Derived.RangeFuncNested
import Derived.RangeFuncLeaves
import Derived.Shelf.Abstract
import Derived.WalkKit
import Derived.OwnWalkIn
import Derived.TacticsInMore
import Derived.LoopNIn
import Derived.LoopIn
import Derived.Maps.AppendAt
import Derived.Lib.Hide
import Derived.Outline
namespace Go.Proofs.Ytmojheonollpeaa
open Go.RowKit Go.Shelf
namespace BL

attribute [local go_sem] Oper.semAt_some

/-- the known variants -/
def known : List Int := [1, 2, 4, 8, 16]
/-- does n share a bit with l -/
def hit (l n : Int) : Bool := bits .and .i64 l n != 0
/-- what has come behind k tries -/
def upto (l : Int) (k : Nat) : List Int := (known.take k).filter (hit l)
def all (l : Int) : List Int := known.filter (hit l)

/-- the try number k is the variant x; the loop ends at 32 -/
def Step (k : Nat) (x : Int) : Prop := (k = 0 ∧ x = 1) ∨ (k = 1 ∧ x = 2) ∨ (k = 2 ∧ x = 4) ∨ (k = 3 ∧ x = 8) ∨ (k = 4 ∧ x = 16) ∨ (k = 5 ∧ x = 32)
theorem upto_five (l : Int) : upto l 5 = all l := rfl
theorem upto_hit (l : Int) {k : Nat} (h : k < 5) (hh : hit l (known.getD k 0) = true) : upto l (k + 1) = upto l k ++ [known.getD k 0] := by
  have hk : k < known.length := h
  have e : known.getD k 0 = known[k] := by rw [List.getD_eq_getElem?_getD, List.getElem?_eq_getElem hk]; rfl
  rw [e] at hh ⊢
  unfold upto
  rw [List.take_succ_eq_append_getElem hk, List.filter_append]
  simp [hh]
theorem upto_miss (l : Int) {k : Nat} (h : k < 5) (hh : hit l (known.getD k 0) = false) : upto l (k + 1) = upto l k := by
  have hk : k < known.length := h
  have e : known.getD k 0 = known[k] := by rw [List.getD_eq_getElem?_getD, List.getElem?_eq_getElem hk]; rfl
  rw [e] at hh
  unfold upto
  rw [List.take_succ_eq_append_getElem hk, List.filter_append]
  simp [hh]
theorem upto_all (l : Int) (k : Nat) : all l = upto l k ++ (known.drop k).filter (hit l) := by
  unfold all upto
  rw [← List.filter_append, List.take_append_drop]
theorem all_hit (l : Int) {k : Nat} (h : k < 5) (hh : hit l (known.getD k 0) = true) : all l = upto l k ++ known.getD k 0 :: (known.drop (k + 1)).filter (hit l) := by
  rw [upto_all l (k + 1), upto_hit l h hh, List.append_assoc]; rfl
theorem upto_lt (l : Int) {k : Nat} (h : k < 5) (hh : hit l (known.getD k 0) = true) : (upto l k).length < (all l).length := by
  rw [all_hit l h hh]; simp
theorem upto_at (l : Int) {k : Nat} (h : k < 5) (hh : hit l (known.getD k 0) = true) : (all l)[(upto l k).length]? = some (known.getD k 0) := by
  rw [all_hit l h hh]; simp
theorem all_le (l : Int) : (all l).length ≤ 5 := by
  have := List.length_filter_le (hit l) known
  exact this

/-- what the body must keep: the box of the captured variants -/
def Kc (B : Nat) (W W' : World) : Prop := W'.cell? ⟨B, 0, none⟩ = W.cell? ⟨B, 0, none⟩
set_option maxRecDepth 100000 in
set_option maxHeartbeats 1000000 in
/-- the iterator: for every loop body that keeps what lay below n₀ -/
theorem bits1_in (F : Fence) (n : Nat) (h6 : F.fn 35) (hro : F.round = none) (hn : 1 ≤ n) (r Bn : Nat) (l : Int) (J Jx : List Int → World → Prop)
    (hY : ∀ pre x W, J pre W → pre.length < (all l).length → YieldAt F (n - 1) Try.prog r #[.int .i64 x] W fun e W' =>
      (e = .returned (.bool true) ∧ J (pre ++ [x]) W' ∧ Kc Bn W W') ∨ (e = .returned (.bool false) ∧ Jx (pre ++ [x]) W'))
    (W : World) (hBn : W.cell? ⟨Bn, 0, none⟩ = some (.int .i64 l)) (h0 : J [] W) :
    CallsIn F n Try.prog 35 #[.func (.yield r) #[] #[], .pointer (some ⟨Bn, 0, none⟩)] W fun e W' => (∃ v, e = .returned v) ∧
      ((∃ ys, ys = all l ∧ J ys W') ∨ (∃ pre, pre <+: all l ∧ Jx pre W')) := by
  refine callsIn_of_wp Try.func35 rfl h6 ?_ hro
  simp only [Try.ntmps35, List.size_toArray, List.length_cons, List.length_nil, Nat.reduceAdd, Nat.reduceSub, Array.replicate_succ, Array.replicate_zero, List.push_toArray, List.append_toArray, List.nil_append, List.cons_append]
  gi_wp2
  gi_loopw [3] (fun p wr => ∃ (k : Nat) (x : Int), Step k x ∧ p = .int .i64 x ∧ wr.cell? ⟨Bn, 0, none⟩ = some (.int .i64 l) ∧ J (upto l k) wr)
    (fun p _ => (32 - intOf p).toNat)
  case atStart =>
    exact ⟨0, 1, .inl ⟨rfl, rfl⟩, rfl, hBn, h0⟩
  case round =>
    obtain ⟨k, x, hk, rfl, hc, hJs⟩ := hrel
    have HY := Lib.hid (hY (upto l k) x wr hJs)
    clear hY
    rcases hk with ⟨rfl, rfl⟩ | ⟨rfl, rfl⟩ | ⟨rfl, rfl⟩ | ⟨rfl, rfl⟩ | ⟨rfl, rfl⟩ | ⟨rfl, rfl⟩
    case inr.inr.inr.inr.inr =>
      gi_wp2
      go_end0
      exact ⟨⟨_, rfl⟩, .inl ⟨_, upto_five l, hJs⟩⟩
    case inl =>
      have g5 : 0 < 5 := by omega
      cases hh : (bits .and .i64 l 1 != 0) with
      | true =>
        have h1 : hit l (known.getD 0 0) = true := hh
        obtain ⟨fn, tmps, assign, body, hy, hR⟩ := HY.out (upto_lt l g5 h1)
        have HR := Lib.hid hR
        have HU : Hid (upto l 1 = upto l 0 ++ [1]) := Lib.hid (upto_hit l g5 h1)
        have HA := Lib.hid (upto_all l 1)
        have he : (bits .and .i64 l 1 == 0) = false := by simpa using hh
        clear hR h1 HY
        gi_wp2
        refine HR.out.mono ?_
        rintro e W3 (⟨rfl, hJ3, hk3'⟩ | ⟨rfl, hJx3⟩)
        · have hk3 : Hid (W3.cell? ⟨Bn, 0, none⟩ = wr.cell? ⟨Bn, 0, none⟩) := Lib.hid hk3'
          clear hk3'
          have hc3 : W3.cell? ⟨Bn, 0, none⟩ = some (.int .i64 l) := hk3.out.trans hc
          gi_wp2
          go_roundw
          case rel => exact ⟨1, 2, by unfold Step; omega, rfl, hc3, by rw [HU.out]; exact hJ3⟩
          case measure => simp [intOf]
        · gi_wp2
          refine bodyPost_ret (results_none rfl _ _ _) rfl ?_
          exact ⟨⟨_, rfl⟩, .inr ⟨upto l 0 ++ [1], ⟨_, by rw [← HU.out]; exact HA.out.symm⟩, hJx3⟩⟩
      | false =>
        have HU : Hid (upto l 1 = upto l 0) := Lib.hid (upto_miss l g5 hh)
        have he : (bits .and .i64 l 1 == 0) = true := by simpa using hh
        clear HY
        gi_wp2
        go_roundw
        case rel => exact ⟨1, 2, by unfold Step; omega, rfl, hc, by rw [HU.out]; exact hJs⟩
        case measure => simp [intOf]
    case inr.inl =>
      have g5 : 1 < 5 := by omega
      cases hh : (bits .and .i64 l 2 != 0) with
      | true =>
        have h1 : hit l (known.getD 1 0) = true := hh
        obtain ⟨fn, tmps, assign, body, hy, hR⟩ := HY.out (upto_lt l g5 h1)
        have HR := Lib.hid hR
        have HU : Hid (upto l 2 = upto l 1 ++ [2]) := Lib.hid (upto_hit l g5 h1)
        have HA := Lib.hid (upto_all l 2)
        have he : (bits .and .i64 l 2 == 0) = false := by simpa using hh
        clear hR h1 HY
        gi_wp2
        refine HR.out.mono ?_
        rintro e W3 (⟨rfl, hJ3, hk3'⟩ | ⟨rfl, hJx3⟩)
        · have hk3 : Hid (W3.cell? ⟨Bn, 0, none⟩ = wr.cell? ⟨Bn, 0, none⟩) := Lib.hid hk3'
          clear hk3'
          have hc3 : W3.cell? ⟨Bn, 0, none⟩ = some (.int .i64 l) := hk3.out.trans hc
          gi_wp2
          go_roundw
          case rel => exact ⟨2, 4, by unfold Step; omega, rfl, hc3, by rw [HU.out]; exact hJ3⟩
          case measure => simp [intOf]
        · gi_wp2
          refine bodyPost_ret (results_none rfl _ _ _) rfl ?_
          exact ⟨⟨_, rfl⟩, .inr ⟨upto l 1 ++ [2], ⟨_, by rw [← HU.out]; exact HA.out.symm⟩, hJx3⟩⟩
      | false =>
        have HU : Hid (upto l 2 = upto l 1) := Lib.hid (upto_miss l g5 hh)
        have he : (bits .and .i64 l 2 == 0) = true := by simpa using hh
        clear HY
        gi_wp2
        go_roundw
        case rel => exact ⟨2, 4, by unfold Step; omega, rfl, hc, by rw [HU.out]; exact hJs⟩
        case measure => simp [intOf]
    case inr.inr.inl =>
      have g5 : 2 < 5 := by omega
      cases hh : (bits .and .i64 l 4 != 0) with
      | true =>
        have h1 : hit l (known.getD 2 0) = true := hh
        obtain ⟨fn, tmps, assign, body, hy, hR⟩ := HY.out (upto_lt l g5 h1)
        have HR := Lib.hid hR
        have HU : Hid (upto l 3 = upto l 2 ++ [4]) := Lib.hid (upto_hit l g5 h1)
        have HA := Lib.hid (upto_all l 3)
        have he : (bits .and .i64 l 4 == 0) = false := by simpa using hh
        clear hR h1 HY
        gi_wp2
        refine HR.out.mono ?_
        rintro e W3 (⟨rfl, hJ3, hk3'⟩ | ⟨rfl, hJx3⟩)
        · have hk3 : Hid (W3.cell? ⟨Bn, 0, none⟩ = wr.cell? ⟨Bn, 0, none⟩) := Lib.hid hk3'
          clear hk3'
          have hc3 : W3.cell? ⟨Bn, 0, none⟩ = some (.int .i64 l) := hk3.out.trans hc
          gi_wp2
          go_roundw
          case rel => exact ⟨3, 8, by unfold Step; omega, rfl, hc3, by rw [HU.out]; exact hJ3⟩
          case measure => simp [intOf]
        · gi_wp2
          refine bodyPost_ret (results_none rfl _ _ _) rfl ?_
          exact ⟨⟨_, rfl⟩, .inr ⟨upto l 2 ++ [4], ⟨_, by rw [← HU.out]; exact HA.out.symm⟩, hJx3⟩⟩
      | false =>
        have HU : Hid (upto l 3 = upto l 2) := Lib.hid (upto_miss l g5 hh)
        have he : (bits .and .i64 l 4 == 0) = true := by simpa using hh
        clear HY
        gi_wp2
        go_roundw
        case rel => exact ⟨3, 8, by unfold Step; omega, rfl, hc, by rw [HU.out]; exact hJs⟩
        case measure => simp [intOf]
    case inr.inr.inr.inl =>
      have g5 : 3 < 5 := by omega
      cases hh : (bits .and .i64 l 8 != 0) with
      | true =>
        have h1 : hit l (known.getD 3 0) = true := hh
        obtain ⟨fn, tmps, assign, body, hy, hR⟩ := HY.out (upto_lt l g5 h1)
        have HR := Lib.hid hR
        have HU : Hid (upto l 4 = upto l 3 ++ [8]) := Lib.hid (upto_hit l g5 h1)
        have HA := Lib.hid (upto_all l 4)
        have he : (bits .and .i64 l 8 == 0) = false := by simpa using hh
        clear hR h1 HY
        gi_wp2
        refine HR.out.mono ?_
        rintro e W3 (⟨rfl, hJ3, hk3'⟩ | ⟨rfl, hJx3⟩)
        · have hk3 : Hid (W3.cell? ⟨Bn, 0, none⟩ = wr.cell? ⟨Bn, 0, none⟩) := Lib.hid hk3'
          clear hk3'
          have hc3 : W3.cell? ⟨Bn, 0, none⟩ = some (.int .i64 l) := hk3.out.trans hc
          gi_wp2
          go_roundw
          case rel => exact ⟨4, 16, by unfold Step; omega, rfl, hc3, by rw [HU.out]; exact hJ3⟩
          case measure => simp [intOf]
        · gi_wp2
          refine bodyPost_ret (results_none rfl _ _ _) rfl ?_
          exact ⟨⟨_, rfl⟩, .inr ⟨upto l 3 ++ [8], ⟨_, by rw [← HU.out]; exact HA.out.symm⟩, hJx3⟩⟩
      | false =>
        have HU : Hid (upto l 4 = upto l 3) := Lib.hid (upto_miss l g5 hh)
        have he : (bits .and .i64 l 8 == 0) = true := by simpa using hh
        clear HY
        gi_wp2
        go_roundw
        case rel => exact ⟨4, 16, by unfold Step; omega, rfl, hc, by rw [HU.out]; exact hJs⟩
        case measure => simp [intOf]
    case inr.inr.inr.inr.inl =>
      have g5 : 4 < 5 := by omega
      cases hh : (bits .and .i64 l 16 != 0) with
      | true =>
        have h1 : hit l (known.getD 4 0) = true := hh
        obtain ⟨fn, tmps, assign, body, hy, hR⟩ := HY.out (upto_lt l g5 h1)
        have HR := Lib.hid hR
        have HU : Hid (upto l 5 = upto l 4 ++ [16]) := Lib.hid (upto_hit l g5 h1)
        have HA := Lib.hid (upto_all l 5)
        have he : (bits .and .i64 l 16 == 0) = false := by simpa using hh
        clear hR h1 HY
        gi_wp2
        refine HR.out.mono ?_
        rintro e W3 (⟨rfl, hJ3, hk3'⟩ | ⟨rfl, hJx3⟩)
        · have hk3 : Hid (W3.cell? ⟨Bn, 0, none⟩ = wr.cell? ⟨Bn, 0, none⟩) := Lib.hid hk3'
          clear hk3'
          have hc3 : W3.cell? ⟨Bn, 0, none⟩ = some (.int .i64 l) := hk3.out.trans hc
          gi_wp2
          go_roundw
          case rel => exact ⟨5, 32, by unfold Step; omega, rfl, hc3, by rw [HU.out]; exact hJ3⟩
          case measure => simp [intOf]
        · gi_wp2
          refine bodyPost_ret (results_none rfl _ _ _) rfl ?_
          exact ⟨⟨_, rfl⟩, .inr ⟨upto l 4 ++ [16], ⟨_, by rw [← HU.out]; exact HA.out.symm⟩, hJx3⟩⟩
      | false =>
        have HU : Hid (upto l 5 = upto l 4) := Lib.hid (upto_miss l g5 hh)
        have he : (bits .and .i64 l 16 == 0) = true := by simpa using hh
        clear HY
        gi_wp2
        go_roundw
        case rel => exact ⟨5, 32, by unfold Step; omega, rfl, hc, by rw [HU.out]; exact hJs⟩
        case measure => simp [intOf]
set_option maxHeartbeats 1000000 in
theorem bits_in (F : Fence) (n : Nat) (h5 : F.fn 32) (hro : F.round = none) (l : Int) (w : World) :
    CallsIn F n Try.prog 32 #[.int .i64 l] w fun e w' => e = .returned (.func (.func 35) #[] #[.pointer (some ⟨w.heap.size, 0, none⟩)]) ∧ w' = w.alloc (.cells #[.int .i64 l] 22) := by
  refine callsIn_of_wp Try.func32 rfl h5 ?_ hro
  simp only [Try.ntmps32, List.size_toArray, List.length_cons, List.length_nil, Nat.reduceAdd, Nat.reduceSub, Array.replicate_succ, Array.replicate_zero, List.push_toArray, List.append_toArray, List.nil_append, List.cons_append]
  gi_wp2
  go_ret
  exact ⟨rfl, rfl⟩
set_option maxHeartbeats 1000000 in
theorem zbits_in (F : Fence) (n : Nat) (h4 : F.fn 28) (h5 : F.fn 32) (hro : F.round = none) (hn : 1 ≤ n) (l : Int) (w : World) :
    CallsIn F n Try.prog 28 #[.int .i64 l] w fun e w' => e = .returned (.func (.func 35) #[] #[.pointer (some ⟨w.heap.size, 0, none⟩)]) ∧ w' = w.alloc (.cells #[.int .i64 l] 22) := by
  refine callsIn_of_wp Try.func28 rfl h4 ?_ hro
  simp only [Try.ntmps28, List.size_toArray, List.length_cons, List.length_nil, Nat.reduceAdd, Nat.reduceSub, Array.replicate_succ, Array.replicate_zero, List.push_toArray, List.append_toArray, List.nil_append, List.cons_append]
  gi_wp2_with (gi_at_call 32; refine (bits_in F (n - 1) h5 hro _ _).mono ?_; rintro e w' ⟨rfl, rfl⟩)
  go_ret
  exact ⟨rfl, rfl⟩
theorem kc_b {w : World} {B : Nat} (hB : B < w.heap.size) (W : World) (l : Nat) (o o' : Obj) (hl : w.heap.size ≤ l) (h : W.heap[l]? = some o) (ho : o.isCells = false) (hw : o.isWalk = false) : Kc B W (W.putObj l o') :=
  (belowK_b (w := w) (Nat.le_refl _) W l o o' hl h ho hw).cell (p := ⟨B, 0, none⟩) hB
theorem not_row_lt {W : World} {B base size k : Nat} {e : TypeId} {v : Value} {xs : List Value} (hB : B < base) (hr : W.ownsRow base e size v k xs) : some B ≠ v.ownBlock := by
  rcases hr.2 with ⟨rfl, _⟩ | ⟨g, cap, cur, rfl, hg, _⟩
  · simp [Value.ownBlock]
  · intro e'
    obtain rfl : B = g := by simpa [Value.ownBlock] using e'
    omega
/-- behind 'out = append(out, x)': the box of out, the box of l, the longer row, what is kept -/
theorem appended {W w1 : World} {n₀ n₁ B L : Nat} {t t' e : TypeId} {size : Nat} {u v v' : Value} {k m : Nat} {xs ys : List Value} {tmp : Obj}
    (hv : Boxed W B t v) (hu : Boxed W L t' u) (hne : L ≠ B) (hrow : W.ownsRow n₁ e size v k xs) (hn₁ : n₁ ≤ W.heap.size) (hn : n₀ ≤ n₁) (hB : n₀ ≤ B) (hB1 : B < n₁) (hL1 : L < n₁)
    (hown' : w1.ownsRow n₁ e size v' m ys) (hgrow : (W.alloc tmp).grownBy w1 v.ownBlock) :
    Boxed w1 B t v ∧ Boxed (w1.setCell ⟨B, 0, none⟩ v') B t v' ∧ Boxed (w1.setCell ⟨B, 0, none⟩ v') L t' u ∧ (w1.setCell ⟨B, 0, none⟩ v').ownsRow n₁ e size v' m ys ∧ KeepsOthers W (w1.setCell ⟨B, 0, none⟩ v') ∧ Below n₀ W (w1.setCell ⟨B, 0, none⟩ v') := by
  have hv1 : Boxed w1 B t v := (hv.alloc tmp).kept hgrow (not_row_lt hB1 hrow)
  have hu1 : Boxed w1 L t' u := (hu.alloc tmp).kept hgrow (not_row_lt hL1 hrow)
  refine ⟨hv1, hv1.set v', hu1.kept (grownBy_setCell' w1 B v') (by simpa using hne), hown'.kept (grownBy_setCell' w1 B v') (.inr (not_row_lt hB1 hown').symm), ?_, ?_⟩
  · refine ((KeepsOthers.alloc W tmp).trans (KeepsOthers.of_grownBy hgrow fun j o ej hj => ?_)).trans (KeepsOthers.setCell _ _ _)
    rcases (hrow.alloc tmp).2 with ⟨rfl, _⟩ | ⟨g, cap, cur, rfl, _, hgb, _⟩
    · simp [Value.ownBlock] at ej
    · obtain rfl : g = j := by simpa [Value.ownBlock] using ej
      rw [hgb] at hj; cases hj; rfl
  · refine (((Below.refl n₀ W).alloc (by omega) tmp).grown hgrow (by simp; omega) fun j ej => ?_).setCell (p := ⟨B, 0, none⟩) hB v'
    rcases hrow.2 with ⟨rfl, _⟩ | ⟨g, cap, cur, rfl, hb, _, _⟩
    · simp [Value.ownBlock] at ej
    · obtain rfl : g = j := by simpa [Value.ownBlock] using ej
      omega
/-- what bits() hands back, at what its caller keeps -/
theorem bits_stops (F : Fence) (n : Nat) (h6 : F.fn 35) (hro : F.round = none) (hn : 1 ≤ n) (Bn : Nat) (l : Int) (w : World) (hB : Bn < w.heap.size)
    (hc : w.cell? ⟨Bn, 0, none⟩ = some (.int .i64 l)) :
    SeqStopsK F n Try.prog 35 #[.pointer (some ⟨Bn, 0, none⟩)] (fun x : Int => #[Value.int .i64 x]) (Kc Bn) (fun ys => ys = all l) (fun pre => pre <+: all l) (all l).length w := fun r J Jx W hW _ _ hY h0 =>
  bits1_in F n h6 hro hn r Bn l J Jx hY W ((hW.cell (p := ⟨Bn, 0, none⟩) hB).trans hc) h0

theorem infoE : (Try.prog.info? 22).map (fun i => (i.zero, i.size, i.bytes)) = some (some (.int .i64 0), 1, 8) := by kernel_rfl

set_option maxRecDepth 100000 in
set_option maxHeartbeats 2000000 in
/-- zzBitsList: a slice that owns the variants hit, in their order; nothing that lay has turned -/
theorem list_in (F : Fence) (n : Nat) (h3 : F.fn 19) (h4 : F.fn 28) (h5 : F.fn 32) (h6 : F.fn 35) (hro : F.round = none) (hn : 4 ≤ n) (l : Int) (w : World) :
    CallsIn F n Try.prog 19 #[.int .i64 l] w fun e W' => ∃ v, e = .returned v ∧ W'.ownsRow (w.heap.size + 2) 22 1 v (all l).length ((all l).map (Value.int .i64)) ∧ Below w.heap.size w W' := by
  have h1 : 1 ≤ n := by omega
  have hall := all_le l
  obtain ⟨i0, hi, hz0, hz1, hz2⟩ := info_parts infoE
  refine callsIn_of_wp_marks Try.func19 rfl h3 ?_ hro
  simp only [Try.ntmps19, List.size_toArray, List.length_cons, List.length_nil, Nat.reduceAdd, Nat.reduceSub, Array.replicate_succ, Array.replicate_zero, List.push_toArray, List.append_toArray, List.nil_append, List.cons_append]
  gi_wp2_with (gi_at_call 28; refine (zbits_in F (n - 1) h4 h5 hro (by omega) _ _).mono ?_; rintro e w' ⟨rfl, rfl⟩)
  have bO := Boxed.new w 38 (.slice none 0 0)
  have bN := Boxed.new (w.alloc (.cells #[.slice none 0 0] 38)) 22 (.int .i64 l)
  rw [World.size_alloc] at bN
  have hB0 : Below w.heap.size w ((w.alloc (.cells #[.slice none 0 0] 38)).alloc (.cells #[.int .i64 l] 22)) := ((Below.refl _ w).alloc (Nat.le_refl _) _).alloc (by simp) _
  refine wpIn_rangeFunc_ownG hro h1 (gf := 35) (lb := #[.pointer (some ⟨w.heap.size + 1, 0, none⟩)]) rfl h6 (enters_of Try.func35 (by kernel_rfl) rfl)
    (bits_stops F (n - 1) h6 hro (by omega) (w.heap.size + 1) l _ (by simp) bN.cell) (fun h k => Eq.trans k h) (kc_b (by simp)) (Below.refl _ _) (fun _ => rfl)
    (fun pre W => ((∃ v, Boxed W w.heap.size 38 v ∧ W.ownsRow (w.heap.size + 2) 22 1 v pre.length (pre.map (Value.int .i64)) ∧ True) ∧ Below w.heap.size w W ∧ w.heap.size + 2 ≤ W.heap.size) ∧ Boxed W (w.heap.size + 1) 22 (.int .i64 l))
    (fun _ _ _ => False)
    ?own
    (fun _ _ _ _ _ hs _ _ => hs)
    ⟨⟨⟨_, bO.alloc _, World.ownsRow_nil _ _ _ _, trivial⟩, hB0, by simp⟩, bN⟩
    (fun x => { tmps := #[.int .i64 l, undef, .slice none 0 0, .pointer (some ⟨w.heap.size, 0, none⟩), .int .i64 x, .int .i64 l, .func (.func 35) #[] #[.pointer (some ⟨w.heap.size + 1, 0, none⟩)], .int .i64 x, undef, undef, undef, undef, undef], defers := [] }) ?assign ?body ?done ?stop
  case own =>
    have o1 := Own.from (holdsRow_own (β := List Int) (w.heap.size + 2) w.heap.size 38 22 1 (fun pre => pre.length) (fun pre => pre.map (Value.int .i64)) (fun _ _ => True)) (w.heap.size + 2)
    have o2 : OwnFrom (w.heap.size + 2) (fun (_ : List Int) W => Below w.heap.size w W) := ownFrom_below (Nat.le_refl _) (by omega)
    have o3 : OwnFrom (w.heap.size + 2) (fun (_ : List Int) (W : World) => w.heap.size + 2 ≤ W.heap.size) := fun s X Y row hs hg hr => Nat.le_trans hs hg.size
    have o4 := Own.from (boxed_own (β := List Int) (w.heap.size + 1) 22 (fun _ => .int .i64 l)) (w.heap.size + 2)
    have := OwnFrom.and (OwnFrom.and o1 (OwnFrom.and o2 o3)) o4
    simpa using this
  case assign =>
    intro l x W K hK
    gi_wp2
    exact hK
  case body =>
    rintro r pre x W ⟨⟨⟨v, hv, hrow, -⟩, hB, hsz⟩, hu⟩ hlt
    have hc := hv.cell
    gi_wp2_with (gi_at_builtin; refine wpListIn_append_own _ rfl _ _ 38 rfl (w.heap.size + 2) 22 i0 (.int .i64 0) 1 8 Try.underlying38 hi hz0 hz1 hz2 rfl (by decide) _ _ _ rfl (hrow.alloc _) ⟨W.heap.size, 0, none⟩ 1 1 [.int .i64 x] rfl rfl (cell_one_new _ _ _) (by simp [Value.oneCell']) (by unfold maxLen; omega) (by omega) (by simp; omega) ?_; intro v' w1 hown' hgrow _; obtain ⟨g', cap', rfl⟩ := ownsRow_succ hown'; obtain ⟨hv1, hv2, hu2, hr2, hk2, hb2⟩ := appended (n₀ := w.heap.size) hv hu (by omega) hrow hsz (by omega) (Nat.le_refl _) (by omega) (by omega) hown' hgrow; have hc1 := hv1.cell; have hf1 := hv1.frozen)
    exact ⟨hk2.from _, by unfold Kc; rw [hu2.cell, hu.cell], ⟨⟨_, hv2, by simpa using hr2, trivial⟩, hB.trans hb2, Nat.le_trans hsz hb2.size⟩, hu2⟩
  case done =>
    rintro D ys W hD rfl ⟨⟨⟨v, hv, hrow, -⟩, hB, hsz⟩, hu⟩ hK
    have hc := hv.cell
    gi_wp2
    refine ⟨by simp, .inl ⟨_, _, rfl, run_takeDeferred hK, ?_⟩⟩
    exact ⟨_, results_tmp rfl _ _ _, v, rfl, ownsRow_putObj hrow _ hK rfl, hB.trans (belowK_b (w := w) (Nat.le_refl _) W D _ _ (by simp at hD; omega) hK rfl rfl)⟩
  case stop =>
    rintro D c pre W _ _ h _
    exact h.elim
end BL
end Go.Proofs.Ytmojheonollpeaa
