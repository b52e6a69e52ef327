/- Proved here: for every int l, LangVariant(l).index() is the position of the lowest set bit among the low 32 bits of l, or 32 when they are all zero (FnIndexIsLowestSetBit returns true), with the table of math/bits as the program's text lays it (the tied card). No other conditions. -/
import Derived.Test.YtmojheonollpeaaDoorCards
import Derived.Test.YtmojheonollpeaaDoorTie
import Derived.WalkKit
import Derived.WalkSpells
import Derived.WalkLawsBesides
import Derived.ProofKit
import Derived.OpenShut
import Derived.Lib.Hide
import Derived.Deep.DeepHandedRow
import Derived.Lib.LaidTab
namespace Go.Proofs.YtmojheonollpeaaDoor.fnIndexIsLowestSetBit
open Go.ChangeShapes Go.WideShapes Go.ChangeAt Go.RowKit

/-- the position of the lowest set bit among the low f bits; f where there is none -/
def tz : Nat → Nat → Nat
  | 0, _ => 0
  | f + 1, n => if n % 2 = 1 then 0 else tz f (n / 2) + 1
theorem tz_le (f : Nat) : ∀ n, tz f n ≤ f := by
  induction f with
  | zero => intro n; exact Nat.le_refl _
  | succ f ih => intro n; have := ih (n / 2); simp only [tz]; split <;> omega
theorem tz_lt (f : Nat) : ∀ n, 0 < n → n < 2 ^ f → tz f n < f := by
  induction f with
  | zero => intro n h0 h1; rw [Nat.pow_zero] at h1; omega
  | succ f ih =>
    intro n h0 h1
    simp only [tz]
    split
    · omega
    · have := ih (n / 2) (by omega) (by rw [Nat.pow_succ] at h1; omega)
      omega
theorem tz_zero (f : Nat) : tz f 0 = f := by
  induction f with
  | zero => rfl
  | succ f ih => simp only [tz, Nat.zero_div, ih]; simp
theorem and_compl (f : Nat) : ∀ m, m < 2 ^ f → m &&& (2 ^ f - 1 - m) = 0 := by
  induction f with
  | zero => intro m h; rw [Nat.pow_zero] at h; obtain rfl : m = 0 := by omega
            decide
  | succ f ih =>
    intro m h
    rw [Nat.pow_succ] at h ⊢
    have h1 : (m &&& (2 ^ f * 2 - 1 - m)) / 2 = 0 := by
      rw [Nat.and_div_two, show (2 ^ f * 2 - 1 - m) / 2 = 2 ^ f - 1 - m / 2 by omega]
      exact ih (m / 2) (by omega)
    have h2 : (m &&& (2 ^ f * 2 - 1 - m)) % 2 = 0 := by
      rcases Nat.mod_two_eq_zero_or_one (m &&& (2 ^ f * 2 - 1 - m)) with h | h
      · exact h
      · have := Nat.and_mod_two_eq_one.1 h; omega
    omega
theorem and_neg (f : Nat) : ∀ n, 0 < n → n < 2 ^ f → n &&& (2 ^ f - n) = 2 ^ tz f n := by
  induction f with
  | zero => intro n h0 h1; rw [Nat.pow_zero] at h1; omega
  | succ f ih =>
    intro n h0 h1
    rw [Nat.pow_succ] at h1 ⊢
    have hm : (n &&& (2 ^ f * 2 - n)) = 2 * ((n &&& (2 ^ f * 2 - n)) / 2) + (n &&& (2 ^ f * 2 - n)) % 2 := by omega
    simp only [tz]
    split
    · rename_i ho
      have h2 : (n &&& (2 ^ f * 2 - n)) % 2 = 1 := Nat.and_mod_two_eq_one.2 ⟨ho, by omega⟩
      have h3 : (n &&& (2 ^ f * 2 - n)) / 2 = 0 := by
        rw [Nat.and_div_two, show (2 ^ f * 2 - n) / 2 = 2 ^ f - 1 - n / 2 by omega]
        exact and_compl f (n / 2) (by omega)
      rw [hm, h2, h3]
    · rename_i ho
      have h2 : (n &&& (2 ^ f * 2 - n)) % 2 = 0 := by
        rcases Nat.mod_two_eq_zero_or_one (n &&& (2 ^ f * 2 - n)) with h | h
        · exact h
        · have := Nat.and_mod_two_eq_one.1 h; omega
      have h3 : (n &&& (2 ^ f * 2 - n)) / 2 = 2 ^ tz f (n / 2) := by
        rw [Nat.and_div_two, show (2 ^ f * 2 - n) / 2 = 2 ^ f - n / 2 by omega]
        exact ih (n / 2) (by omega) (by omega)
      rw [hm, h2, h3, Nat.pow_succ]; omega
/-- the loop's step -/
theorem tz_step (f n : Nat) : tz (f + 1) n = if n % 2 = 1 then 0 else tz f (n / 2) + 1 := rfl

def tab : List Int := [0, 1, 28, 2, 29, 14, 24, 3, 30, 22, 20, 15, 25, 17, 4, 8, 31, 27, 13, 23, 21, 19, 16, 7, 26, 12, 18, 6, 11, 5, 10, 9]
theorem tab_at : ∀ k : Fin 32, (2 ^ k.val * 125613361 % 4294967296 / 134217728 < 32) ∧ tab.getD (2 ^ k.val * 125613361 % 4294967296 / 134217728) 0 = (k.val : Int) := by decide +kernel

theorem own : ownKnob Tryd.prog.godebug = none := by kernel_rfl
theorem gTab : Tryd.prog.globalNamed "math/bits.deBruijn32tab" = some 0 := by kernel_rfl
theorem gTabType : (Tryd.prog.globals[0]?).map (·.type) = some 29 := by kernel_rfl
theorem cells29 : Tryd.prog.cellsOf 29 = 32 := by kernel_rfl
theorem cells5 : Tryd.prog.cellsOf 5 = 1 := by kernel_rfl

/-- what the row's list gives: the table's cells -/
theorem table {W : World} (h : laidMetH Tryd.prog Rows.fnIndexIsLowestSetBitRow.laid W) : Lib.TabIs Tryd.prog W "math/bits.deBruijn32tab" .u8 tab :=
  Lib.tabIs_of_head (rest := []) gTab gTabType Tryd.underlying29 Tryd.underlying5 cells5 cells29 h

/-- the table as the walk asks for it -/
def TabAt (w : World) : Prop := ∀ i, i < 32 → w.cell? ⟨0, i, none⟩ = some (.int .u8 (tab.getD i 0))

theorem low_bit (u : Nat) (h0 : 0 < u) (h1 : u < 4294967296) : bits .and .u32 (u : Int) (-(u : Int) % 4294967296) = ((2 ^ tz 32 u : Nat) : Int) := by
  have e : (-(u : Int) % 4294967296) = ((4294967296 - u : Nat) : Int) := by omega
  rw [e, u32_and _ _ (by omega) (by omega) (by omega) (by omega)]
  simp only [Int.toNat_natCast]
  have := and_neg 32 u h0 (by simpa using h1)
  simp only [Nat.reducePow] at this
  rw [this]
theorem cell_at {w : World} (h : TabAt w) (u : Nat) (h0 : 0 < u) (h1 : u < 4294967296) :
    w.cell? ⟨0, (bits .and .u32 (u : Int) (-(u : Int) % 4294967296) * 125613361 % 4294967296 / 134217728).toNat, none⟩ = some (.int .u8 (tz 32 u : Int)) := by
  rw [low_bit u h0 h1]
  have hk := tz_lt 32 u h0 (by simpa using h1)
  obtain ⟨a, b⟩ := tab_at ⟨tz 32 u, hk⟩
  simp only at a b
  have e : ∀ P : Nat, ((P : Int) * 125613361 % 4294967296 / 134217728).toNat = P * 125613361 % 4294967296 / 134217728 := by
    intro P
    have h2 : ((P * 125613361 % 4294967296 / 134217728 : Nat) : Int) = (P : Int) * 125613361 % 4294967296 / 134217728 := by
      rw [Int.natCast_ediv, Int.natCast_emod, Int.natCast_mul]; rfl
    rw [← h2, Int.toNat_natCast]
  rw [e, h _ a, b]

theorem ret_i64 {a b : Int} (h : a = b) : Ending.returned (.int .i64 a) = .returned (.int .i64 b) := by rw [h]
set_option maxHeartbeats 1000000 in
theorem tz_any (u : Nat) (w : World) (hT : TabAt w) (h1 : u < 4294967296) :
    Calls Tryd.prog 6 #[.int .u32 (u : Int)] w fun e w' => e = .returned (.int .i64 (tz 32 u : Int)) ∧ w = w' := by
  by_cases h0 : u = 0
  · subst h0
    rw [tz_zero]
    go_enter Tryd.func6, Tryd.ntmps6
    go_wp2
    go_ret
    exact ⟨rfl, rfl⟩
  · have hz : ((u : Int) == 0) = false := by rw [beq_eq_false_iff_ne]; omega
    have hc := cell_at hT u (by omega) h1
    have hk := tz_le 32 u
    have p0 : (0 : Int) < (u : Int) := by omega
    clear hT
    obtain ⟨K, hK⟩ : ∃ K, K = tz 32 u := ⟨_, rfl⟩
    rw [← hK] at hc hk ⊢
    clear hK
    go_enter Tryd.func6, Tryd.ntmps6
    go_wp2
    go_ret
    exact ⟨rfl, rfl⟩
set_option maxHeartbeats 1000000 in
theorem index_any (x : Int) (w : World) (hT : TabAt w) :
    Calls Tryd.prog 4 #[.int .i64 x] w fun e w' => e = .returned (.int .i64 (tz 32 (x % 4294967296).toNat : Int)) ∧ w = w' := by
  obtain ⟨u, hu⟩ : ∃ u : Nat, x % 4294967296 = (u : Int) := ⟨(x % 4294967296).toNat, by omega⟩
  have hu1 : u < 4294967296 := by omega
  have HT := Lib.hid hT
  clear hT
  rw [hu, Int.toNat_natCast]
  go_enter Tryd.func4, Tryd.ntmps4
  go_wp2_with (first | (go_at_call 5; go_in) | (go_at_call 6; refine (tz_any _ _ HT.out hu1).mono ?_; rintro e w' ⟨rfl, rfl⟩))
  go_ret
  exact ⟨rfl, rfl⟩

theorem bit_at (X : Nat) (hX : X < 4294967296) : bits .and .u32 (X : Int) 1 = ((X % 2 : Nat) : Int) := by
  rw [u32_and _ _ (by omega) (by omega) (by omega) (by omega)]
  simp only [Int.toNat_natCast]
  rw [show (1 : Int).toNat = 1 from rfl, Nat.and_one_is_mod]

theorem bit_K (u K : Nat) (hu : u < 4294967296) : bits .and .u32 ((u : Int) / 2 ^ K) 1 = ((u / 2 ^ K % 2 : Nat) : Int) := by
  have e : ((u : Int) / 2 ^ K) = ((u / 2 ^ K : Nat) : Int) := by rw [Int.natCast_ediv, Int.natCast_pow]; rfl
  rw [e]
  exact bit_at _ (Nat.lt_of_le_of_lt (Nat.div_le_self _ _) hu)
theorem hit (u K : Nat) (hK : K < 32) (hN : tz 32 u = K + tz (32 - K) (u / 2 ^ K)) (h : u / 2 ^ K % 2 = 1) : tz 32 u = K := by
  rw [hN, show 32 - K = (31 - K) + 1 by omega, tz_step, if_pos h]; omega
theorem miss (u K : Nat) (hK : K < 32) (hN : tz 32 u = K + tz (32 - K) (u / 2 ^ K)) (h : u / 2 ^ K % 2 = 0) : tz 32 u = (K + 1) + tz (32 - (K + 1)) (u / 2 ^ (K + 1)) := by
  rw [hN, show 32 - K = (32 - (K + 1)) + 1 by omega, tz_step, if_neg (by omega), Nat.pow_succ, Nat.div_div_eq_div_mul]; omega
set_option maxHeartbeats 2000000 in
theorem walk (a0 : Int) (w : World) (hT : TabAt w) :
    Calls Tryd.prog 3 #[.int .i64 a0] w fun e w' => e = .returned (.bool true) ∧ Grown w w' := by
  obtain ⟨u, hu⟩ : ∃ u : Nat, a0 % 4294967296 = (u : Int) := ⟨(a0 % 4294967296).toNat, by omega⟩
  have hu1 : u < 4294967296 := by omega
  have HT := Lib.hid hT
  have HU := Lib.hid (show tz 32 (a0 % 4294967296).toNat = tz 32 u by rw [hu, Int.toNat_natCast])
  clear hT
  go_enter Tryd.func3, Tryd.ntmps3
  go_wp2
  rw [hu]
  have HUU := Lib.hid hu
  clear hu
  go_loop [4, 5] (fun wn k => ∃ K : Nat, K ≤ 32 ∧ k = .int .i64 K ∧ wn = .int .i64 32 ∧ tz 32 u = K + tz (32 - K) (u / 2 ^ K)) (fun _ k => 32 - (intOf k).toNat)
  case atStart => exact ⟨0, by omega, rfl, rfl, by simp⟩
  case round =>
    obtain ⟨K, hK, rfl, rfl, hN⟩ := hrel
    have HN := Lib.hid hN
    clear hN
    by_cases hlt : K < 32
    · have hb := bit_K u K hu1
      rcases Nat.mod_two_eq_zero_or_one (u / 2 ^ K) with hm | hm
      · have HM := Lib.hid (miss u K hlt HN.out hm)
        rw [hm] at hb
        clear hm
        go_wp2
        go_round
        case rel => exact ⟨K + 1, by omega, by go_num, rfl, HM.out⟩
        case measure => simp [intOf]; omega
      · have HM := Lib.hid (hit u K hlt HN.out hm)
        rw [hm] at hb
        clear hm
        go_wp2_with (go_at_call 4; refine (index_any _ _ HT.out).mono ?_; rintro e w' ⟨rfl, rfl⟩; rw [HU.out, HM.out])
        go_ret
        exact ⟨by simp, Grown.refl _⟩
    · have HM : Hid (tz 32 u = 32) := by
        have h := HN.out
        have hk : K = 32 := by omega
        rw [hk] at h
        exact h
      go_wp2_with (go_at_call 4; refine (index_any _ _ HT.out).mono ?_; rintro e w' ⟨rfl, rfl⟩; rw [HU.out, HM.out])
      go_ret
      exact ⟨by simp, Grown.refl _⟩

/-- what the walk gives, for every argument and every world that holds the table -/
theorem contract (H : Type) (enc : TypeId × Value → H) (W : World) (base : Nat) (args : Array Value) (ds gs : List (DataW H)) (before : List MemPlace)
    (hval : ∀ (j : Nat) t v, Tryd.f3.params[j]? = some t → args[j]? = some v → Value.okWide Tryd.prog W .any base t v)
    (hW : DataW.Whole enc Tryd.prog Tryd.f3.params.toList Rows.fnIndexIsLowestSetBitSpec.vars false W args.toList ds gs before) (hL : laidMetH Tryd.prog Rows.fnIndexIsLowestSetBitRow.laid W) :
    Calls Tryd.prog 3 args W fun e W' => ∃ v, e = .returned v ∧ Rows.fnIndexIsLowestSetBitSpec.post enc Tryd.prog Tryd.f3 false true false false W args v W' := by
  have hW' := hW
  obtain ⟨p, q, hA0, hV, rfl, hfz, hnd⟩ := hW
  have hA : DataW.TrodAll enc Tryd.prog W 0 (fun _ => true) true Tryd.f3.params.toList args.toList ds p := hA0
  rw [Tryd.params3] at hA hval
  obtain ⟨v0, vs0, d0, ds0, p0, q0, hargs, rfl, rfl, h0, r0⟩ := trodAll_cons hA
  obtain ⟨rfl, rfl, rfl⟩ := trodAll_nil r0
  obtain rfl : args = #[v0] := by cases args; simp_all
  obtain ⟨rfl, rfl⟩ := trodVars_none hV
  obtain ⟨a0, rfl, rfl, rfl, w0⟩ := open_int Tryd.underlying3 (hval 0 3 v0 rfl rfl) h0
  clear hA0
  simp only [List.append_nil] at hW'
  have hT : TabAt W := fun i hi => (table hL).cell gTab i (by simpa [tab] using hi)
  refine (walk a0 W hT).mono fun e W' ⟨he, hg⟩ => ?_
  subst he
  exact ⟨_, rfl, post_of_same (pa := []) (pv := []) hW' (fun _ _ _ => trodAll_cons_mk (shut_bool Tryd.underlying4 _) trodAll_mk0) (fun _ _ => trodAll_cons_mk (shut_int Tryd.underlying3 w0) trodAll_mk0) (fun _ _ => rfl) rfl
    (hg.frame _) hg.2.1 (ok_one (by kernel_rfl) rfl (okWide_bool_mk Tryd.underlying4 _))⟩

/-- a world for the witness: the settled one, the table (block 0) holding what its initialiser lays -/
noncomputable def laidWorld (os : Os) : World :=
  { World.holding Tryd.prog os ⟨#[], #[], []⟩ with heap := (World.holding Tryd.prog os ⟨#[], #[], []⟩).heap.modify 0 fun
      | .cells _ t frozen => .cells #[.int .u8 0, .int .u8 1, .int .u8 28, .int .u8 2, .int .u8 29, .int .u8 14, .int .u8 24, .int .u8 3, .int .u8 30, .int .u8 22, .int .u8 20, .int .u8 15, .int .u8 25, .int .u8 17, .int .u8 4, .int .u8 8, .int .u8 31, .int .u8 27, .int .u8 13, .int .u8 23, .int .u8 21, .int .u8 19, .int .u8 16, .int .u8 7, .int .u8 26, .int .u8 12, .int .u8 18, .int .u8 6, .int .u8 11, .int .u8 5, .int .u8 10, .int .u8 9] t frozen
      | o => o }
theorem laid_met (os : Os) : laidMet Tryd.prog Rows.fnIndexIsLowestSetBitRow.laid ((laidWorld os).forCall (fun _ _ => 0) ⟨#[], #[.int .i64 0], []⟩).memory :=
  laidMet_of_run' 8 (by kernel_rfl) (by kernel_rfl)
theorem reads (os : Os) {H : Type} (enc : TypeId × Value → H) : ∃ places, DataW.whole enc Tryd.prog ((laidWorld os).forCall (fun _ _ => 0) ⟨#[], #[.int .i64 0], []⟩).memory Tryd.f3.params.toList Rows.fnIndexIsLowestSetBitSpec.vars false #[Value.int .i64 0].toList 8 = some ([.lit (.int .i64 0)], [], places) :=
  ⟨[], by kernel_rfl⟩

set_option maxRecDepth 100000 in
theorem lifted (os : Os) (started : os.Started) (H : Type) (enc : TypeId × Value → H) (F : Stop.Interp) :
    ReturnsInHanded {} Tryd.checked os 3 .any ((OpenSpec.ofChange Rows.fnIndexIsLowestSetBitSpec).preRow enc Tryd.prog Tryd.f3 Rows.fnIndexIsLowestSetBitRow.domain false Rows.fnIndexIsLowestSetBitRow.laid) (((OpenSpec.ofChange Rows.fnIndexIsLowestSetBitSpec).at F).post enc Tryd.prog Tryd.f3 false true false false) := by
  obtain ⟨places, hx⟩ := reads os enc
  refine returnsInHanded_of_row (C := Tryd.checked) (s := OpenSpec.ofChange Rows.fnIndexIsLowestSetBitSpec) own started (by kernel_rfl) Tryd.func3
    (witness_row_at (enc := enc) (C := Tryd.checked) false (laidWorld os) #[.int .i64 0] rfl (by kernel_rfl) (by kernel_rfl) (by kernel_rfl)
      (OpenSpec.preRow_of_cond 8 hx (by kernel_rfl) (fun k hk => by cases hk) (by kernel_rfl) (laid_met os))) ?_
  intro W base args ds gs before hval hW _ _ _ hL _ _
  exact contract H enc W base args ds gs before hval hW hL

theorem said : Rows.FnIndexIsLowestSetBitSaid :=
  OpenClaim.holds_of_cond 3 Tryd.f3 rfl rfl rfl rfl rfl rfl rfl ⟨rfl, rfl, rfl, rfl, rfl⟩ rfl rfl rfl rfl rfl (by kernel_rfl) Tryd.func3 (by kernel_rfl)
    (of_decide_eq_true (by kernel_rfl)) (by unfold Func.isWrapper; first | (rw [if_pos (by decide +kernel)]; kernel_rfl) | (rw [if_neg (by decide +kernel)]; exact ⟨rfl, rfl⟩))
    (fun os started H enc _ F => by rw [OpenClaim.pre_eq_preRow]; exact lifted os started H enc F)

/-- no parameter wants a stand-in; the program's own looks are off -/
theorem plain (f : FuncId) (fn : Func) (hf : Tryd.pinned.checked.prog.funcNamed "mvdan.cc/sh/v3/n010_88.FnIndexIsLowestSetBit" = some f) (hfn : Tryd.pinned.checked.prog.funcs[f]? = some fn) :
    false = Tryd.pinned.checked.prog.looks [] ∧ ∀ (j : Nat) t, fn.params[j]? = some t → Tryd.pinned.checked.prog.wantsStandIn t = false := by
  obtain rfl : f = 3 := Option.some.inj ((show Tryd.prog.funcNamed "mvdan.cc/sh/v3/n010_88.FnIndexIsLowestSetBit" = some 3 by kernel_rfl).symm.trans hf) |>.symm
  obtain rfl : fn = Tryd.f3 := (Option.some.inj (Tryd.func3.symm.trans hfn)).symm
  refine ⟨by kernel_rfl, fun j t ht => ?_⟩
  rw [Tryd.params3] at ht
  obtain rfl : t = 3 := by simpa using Array.mem_of_getElem? ht
  exact (show Tryd.prog.wantsStandIn 3 = false by kernel_rfl)

theorem card : Rows.FnIndexIsLowestSetBitCardSaid :=
  Claim7.holds_tied_plain_at .later [] _ _ _ _ said (fun _ h => by cases h) (by kernel_rfl) (fun _ h => by cases h) fnIndexIsLowestSetBit_row_tie rfl ⟨rfl, rfl⟩ (by kernel_rfl) rfl plain (by kernel_rfl)
#print axioms card
end Go.Proofs.YtmojheonollpeaaDoor.fnIndexIsLowestSetBit
