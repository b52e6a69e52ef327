/- The way of FnErrPassFirstErrorWinsOverScript over lists of one length: the script is played. No conditions but the rows that it reads. -/
import Derived.Test.YtefgeoadfjghaaaErrL
import Derived.Test.YtefgeoadfjghaaaPos
import Derived.Test.YtefgeoadfjghaaaCloneB
import Derived.Test.YtefgeoadfjghaaaCloneS
import Derived.Test.YtefgeoadfjghaaaCloneO
import Derived.Test.YtefgeoadfjghaaaCloneU
import Derived.Deep.RegionHeld3
namespace Go.Proofs.Ytefgeoadfjghaaa
namespace EP
open Go.RowKit
theorem bel2 {w w1 w2 : World} (h1 : Below w.heap.size w w1) (h2 : Below w1.heap.size w1 w2) : Below w.heap.size w w2 := h1.trans (h2.mono h1.size)
theorem newPos_k (k : Nat) (l : Int) (w : World) (hk : k ≤ 4096) (hl : 0 ≤ l) : Calls Try.prog 15 #[.int .u64 k, .int .u64 l, .int .u64 1] w fun e w' => e = .returned (posV k (packLC l 1)) ∧ w.alloc (posC k (packLC l 1)) = w' := by
  have := newPos_any k l 1 w (by omega) hl (by omega)
  rwa [clampO_le (by omega)] at this
/-- after k errors -/
def EInv (w5 : World) (b n nb : Nat) (v1 : Value) (tok : Int) (pe : Value) (vi : Value) (wr : World) : Prop := ∃ k : Nat, k ≤ n ∧ vi = .int .i64 k ∧ Below w5.heap.size w5 wr ∧
  ((k = 0 ∧ PS b v1 (.int .u64 0) (.int .i32 0) (.int .i64 0) .nilIface (.int .u32 tok) wr) ∨ (0 < k ∧ PS b v1 (.int .u64 ((nb : Int) + 1)) (.int .i32 1114112) (.int .i64 1) (.iface 44 pe) (.int .u32 1) wr))
theorem cells4 {w5 W : World} {x2 x3 x4 x5 : Addr} {k : Nat} {v2 v3 v4 v5 : Value} (h : w5.cell? (x2.add k) = some v2 ∧ w5.cell? (x3.add k) = some v3 ∧ w5.cell? (x4.add k) = some v4 ∧ w5.cell? (x5.add k) = some v5) (hb : Below w5.heap.size w5 W) :
    W.cell? (x2.add k) = some v2 ∧ W.cell? (x3.add k) = some v3 ∧ W.cell? (x4.add k) = some v4 ∧ W.cell? (x5.add k) = some v5 ∧ Below w5.heap.size w5 W := ⟨cell_later hb h.1, cell_later hb h.2.1, cell_later hb h.2.2.1, cell_later hb h.2.2.2, hb⟩
theorem cells4' {w5 W : World} {x2 x3 x4 x5 : Addr} {v2 v3 v4 v5 : Value} (h : w5.cell? x2 = some v2 ∧ w5.cell? x3 = some v3 ∧ w5.cell? x4 = some v4 ∧ w5.cell? x5 = some v5) (hb : Below w5.heap.size w5 W) :
    W.cell? x2 = some v2 ∧ W.cell? x3 = some v3 ∧ W.cell? x4 = some v4 ∧ W.cell? x5 = some v5 ∧ Below w5.heap.size w5 W := ⟨cell_later hb h.1, cell_later hb h.2.1, cell_later hb h.2.2.1, cell_later hb h.2.2.2, hb⟩
theorem and5 {a b c d e f : Prop} (h : a ∧ b ∧ c ∧ d ∧ e) (g : f) : a ∧ b ∧ c ∧ d ∧ e ∧ f := ⟨h.1, h.2.1, h.2.2.1, h.2.2.2.1, h.2.2.2.2, g⟩
theorem keepS {w5 wr W : World} {x2 x3 x4 x5 : Addr} {v2 v3 v4 v5 u1 u2 u3 u4 u7 u10 : Value} {b : Nat} (hc : w5.cell? x2 = some v2 ∧ w5.cell? x3 = some v3 ∧ w5.cell? x4 = some v4 ∧ w5.cell? x5 = some v5) (hb : Below w5.heap.size w5 wr) (hp : PS b u1 u2 u3 u4 u7 u10 wr) (h : Below wr.heap.size wr W) :
    W.cell? x2 = some v2 ∧ W.cell? x3 = some v3 ∧ W.cell? x4 = some v4 ∧ W.cell? x5 = some v5 ∧ Below w5.heap.size w5 W ∧ PS b u1 u2 u3 u4 u7 u10 W := and5 (cells4' hc (bel2 hb h)) (hp.below h)
theorem bal5 {w W : World} (h : Below w.heap.size w W) (o : Obj) : Below w.heap.size w (W.alloc o) := h.alloc h.size o
theorem or_alloc {b : Nat} {u1 u2 u3 u4 u7 u10 v1 v2 v3 v4 v7 v10 : Value} {W : World} (h : PS b u1 u2 u3 u4 u7 u10 W ∨ PS b v1 v2 v3 v4 v7 v10 W) (o : Obj) : PS b u1 u2 u3 u4 u7 u10 (W.alloc o) ∨ PS b v1 v2 v3 v4 v7 v10 (W.alloc o) :=
  h.imp (fun h => h.below ((Below.refl _ _).alloc (Nat.le_refl _) _)) (fun h => h.below ((Below.refl _ _).alloc (Nat.le_refl _) _))
theorem or_drew {b : Nat} {u1 u2 u3 u4 u7 u10 v1 v2 v3 v4 v7 v10 : Value} {W : World} (h : PS b u1 u2 u3 u4 u7 u10 W ∨ PS b v1 v2 v3 v4 v7 v10 W) : PS b u1 u2 u3 u4 u7 u10 W.drew ∨ PS b v1 v2 v3 v4 v7 v10 W.drew :=
  h.imp (fun h => h.below (Below.refl _ _).drew) (fun h => h.below (Below.refl _ _).drew)
set_option maxRecDepth 100000 in
set_option maxHeartbeats 16000000 in
theorem even (tok : Int) (a1 a2 a3 a4 a5 : Option Addr) (n1 n2 c1 c2 c3 c4 c5 : Nat) (fb : Nat → Int) (f g : Nat → ByteArray) (fi : Nat → Bool) (fu : Nat → Int) (w : World)
    (r1 : IRow .u8 w a1 n1 fb) (r2 : SRow w a2 n2 f) (r3 : SRow w a3 n2 g) (r4 : BRow w a4 n2 fi) (r5 : IRow .u64 w a5 n2 fu)
    (z1 : a1 = none → n1 = 0 ∧ c1 = 0) (z2 : a2 = none → n2 = 0 ∧ c2 = 0) (z3 : a3 = none → n2 = 0 ∧ c3 = 0) (z4 : a4 = none → n2 = 0 ∧ c4 = 0) (z5 : a5 = none → n2 = 0 ∧ c5 = 0)
    (s2 : ∀ i, i < n2 → (f i).size ≤ 9223372036854775807) (s3 : ∀ i, i < n2 → (g i).size ≤ 9223372036854775807) (u0 : ∀ i, i < n2 → 0 ≤ fu i)
    (b1 : n1 ≤ 9223372036854775807) (b2 : n2 ≤ 9223372036854775807)  (l2 : n2 ≤ 4096) :
    Calls Try.prog 5 #[.int .u32 tok, .slice a1 n1 c1, .slice a2 n2 c2, .slice a3 n2 c3, .slice a4 n2 c4, .slice a5 n2 c5] w fun e w' => e = .returned (.bool true) ∧ Below w.heap.size w w' := by
  have Hr1 := Lib.hid r1
  have Hr2 := Lib.hid r2
  have Hr3 := Lib.hid r3
  have Hr4 := Lib.hid r4
  have Hr5 := Lib.hid r5
  have Hz1 := Lib.hid z1
  have Hz2 := Lib.hid z2
  have Hz3 := Lib.hid z3
  have Hz4 := Lib.hid z4
  have Hz5 := Lib.hid z5
  have Hs2 := Lib.hid s2
  have Hs3 := Lib.hid s3
  have Hu0 := Lib.hid u0
  clear r1 r2 r3 r4 r5 z1 z2 z3 z4 z5 s2 s3 u0
  have tok1 : True := trivial
  go_enter Try.func5, Try.ntmps5
  go_upto_region 3 with (first | (go_at_call 8; refine (bytes_any _ _ _ _ _ _ _ _ _ _ _ _ _ _ _ _ f g _ Hr2.out Hr3.out Hs2.out Hs3.out b1 b2 b2 b2 b2).mono ?_; rintro e w' ⟨x, rfl, hx, rfl⟩; have HX := Lib.hid hx; clear hx; cases x))
  all_goals try (go_ret; exact ⟨rfl, Below.refl _ _⟩)
  have m1 := (HX.out rfl).1
  go_wp2
  go_loop [13, 14] (fun vz vi => Sum n2 1200000 vz vi) (fun _ vi => n2 - (intOf vi).toNat)
  case atStart => exact ⟨0, n1 + 8 * n2 + 8 * n2 + n2 + 8 * n2, Nat.zero_le _, by omega, rfl, by go_num⟩
  case round =>
    obtain ⟨k, z, hk, hz, rfl, rfl⟩ := hrel
    by_cases hlt : k < n2
    · obtain ⟨x, rfl, hc⟩ := Hr2.out k hlt
      have hsz := (HX.out rfl).2.2.2.2.2.1 k hlt
      have i0 : (0 : Int) ≤ (k : Int) := by omega
      have i1 : (k : Int) < (n2 : Int) := by omega
      go_wp2
      go_round
      case rel => exact ⟨k + 1, z + (f k).size, by omega, by omega, by go_num, by go_num⟩
      case measure => simp [intOf]; omega
    · have hkn : ¬ (k : Int) < (n2 : Int) := by omega
      have hz2 : z ≤ 4300000000 := by omega
      go_wp2
      go_loop [13, 15] (fun vz vi => Sum n2 4300000000 vz vi) (fun _ vi => n2 - (intOf vi).toNat)
      case atStart => exact ⟨0, z, Nat.zero_le _, by omega, rfl, rfl⟩
      case round =>
        obtain ⟨k', z', hk', hz', rfl, rfl⟩ := hrel
        by_cases hlt' : k' < n2
        · obtain ⟨x, rfl, hc⟩ := Hr3.out k' hlt'
          have hsz := (HX.out rfl).2.2.2.2.2.2 k' hlt'
          have i0 : (0 : Int) ≤ (k' : Int) := by omega
          have i1 : (k' : Int) < (n2 : Int) := by omega
          go_wp2
          go_round
          case rel => exact ⟨k' + 1, z' + (g k').size, by omega, by omega, by go_num, by go_num⟩
          case measure => simp [intOf]; omega
        · have hkn' : ¬ (k' : Int) < (n2 : Int) := by omega
          by_cases hT : 1048576 < z'
          · go_wp2
            go_ret
            exact ⟨rfl, Below.refl _ _⟩
          have hT' : ¬ (1048576 : Int) < (z' : Int) := by omega
          by_cases hK : 143 < tok
          · go_wp2_with (go_at_call 9; go_in)
            go_ret
            exact ⟨rfl, Below.refl _ _⟩
          have m2 : n2 ≤ 1048576 := by omega
          go_upto_region 26 with (first
            | (go_at_call 9; go_in)
            | (go_at_call 10; refine (CB.clone_any _ _ _ fb _ Hr1.out Hz1.out m1).mono ?_; rintro e w1 ⟨A1, d1, rfl, _, R1, _, _, hb1⟩
               have HB1 := Lib.hid hb1; clear R1 hb1)
            | (have _t := tok1; go_at_call 11; refine (CS.clone_any _ _ _ f _ (Hr2.out.below HB1.out) Hz2.out m2).mono ?_; rintro e w2 ⟨A2, d2, rfl, _, R2, _, _, hb2⟩
               have HR2 := Lib.hid R2; have HB2 := Lib.hid (bel2 HB1.out hb2); clear _t tok1 R2 hb2)
            | (go_at_call 11; refine (CS.clone_any _ _ _ g _ (Hr3.out.below HB2.out) Hz3.out m2).mono ?_; rintro e w3 ⟨A3, d3, rfl, _, R3, _, _, hb3⟩
               have HR3 := Lib.hid R3; have HC3 := Lib.hid hb3; have HB3 := Lib.hid (bel2 HB2.out hb3); clear R3 hb3)
            | (go_at_call 12; refine (CO.clone_any _ _ _ fi _ (Hr4.out.below HB3.out) Hz4.out m2).mono ?_; rintro e w4 ⟨A4, d4, rfl, _, R4, _, _, hb4⟩
               have HR4 := Lib.hid R4; have HC4 := Lib.hid hb4; have HB4 := Lib.hid (bel2 HB3.out hb4); clear R4 hb4)
            | (go_at_call 13; refine (CU.clone_any _ _ _ fu _ (Hr5.out.below HB4.out) Hz5.out m2).mono ?_; rintro e w5 ⟨A5, d5, rfl, _, R5, _, _, hb5⟩
               have HR5 := Lib.hid R5; have HC5 := Lib.hid hb5; have HB5 := Lib.hid (bel2 HB4.out hb5); clear R5 hb5)
            | (go_at_call 15; refine (newPos_any 0 1 1 _ (by omega) (by omega) (by omega)).mono ?_; rintro e w' ⟨rfl, rfl⟩)
            | (go_at_call 14; refine (znew_any _ tok _ _ A1 n1 d1 _).mono ?_; rintro e w6 ⟨b, rfl, hbb, hps, hb6⟩
               have HPS := Lib.hid hps
               have HB6 := Lib.hid (((Below.refl w5.heap.size w5).alloc (Nat.le_refl _) _).trans (hb6.mono (by simp)))
               have hb5' : w5.heap.size ≤ b := Nat.le_trans (by simp) hbb
               clear hps hb6 hbb))
          have HF := Lib.hid (((HR2.out.below HC3.out).below HC4.out).below HC5.out)
          have HG := Lib.hid ((HR3.out.below HC4.out).below HC5.out)
          have HO := Lib.hid (HR4.out.below HC5.out)
          clear HR2 HR3 HR4 HC3 HC4 HC5 HB1 HB2 HB3 HB4 Hr1 Hr2 Hr3 Hr4 Hr5 Hz1 Hz2 Hz3 Hz4 Hz5 Hs2 Hs3
          go_wp2
          go_loopw [17] (fun vi wr => EInv w5 b n2 n1 (.slice A1 n1 d1) tok (peV (f 0) 0 (packLC (fu 0) 1) (g 0) (fi 0)) vi wr) (fun vi _ => n2 - (intOf vi).toNat)
          case atStart => exact ⟨0, Nat.zero_le _, rfl, HB6.out, .inl ⟨rfl, HPS.out⟩⟩
          case round =>
            obtain ⟨k3, hk3, rfl, hbel, hst⟩ := hrel
            have HBL := Lib.hid hbel
            have HST := Lib.hid hst
            clear hbel hst
            by_cases hlt3 : k3 < n2
            · obtain ⟨x2, rfl, q2⟩ := HF.out k3 hlt3
              obtain ⟨x3, rfl, q3⟩ := HG.out k3 hlt3
              obtain ⟨x4, rfl, q4⟩ := HO.out k3 hlt3
              obtain ⟨x5, rfl, q5⟩ := HR5.out k3 hlt3
              have HC : Hid (w5.cell? (x2.add k3) = some (.string (f k3)) ∧ w5.cell? (x3.add k3) = some (.string (g k3)) ∧ w5.cell? (x4.add k3) = some (.bool (fi k3)) ∧ w5.cell? (x5.add k3) = some (.int .u64 (fu k3))) := ⟨q2, q3, q4, q5⟩
              clear q2 q3 q4 q5
              obtain ⟨p2, p3, p4, p5, p6⟩ := cells4 HC.out HBL.out
              have hfu := Hu0.out k3 hlt3
              have i0 : (0 : Int) ≤ (k3 : Int) := by omega
              have i1 : (k3 : Int) < (n2 : Int) := by omega
              have hwk : IntKind.u64.wrap (k3 : Int) = k3 := IntWalk.u64_in _ ⟨by omega, by omega⟩
              go_upto_region 29 with fail
              rcases HST.out with ⟨hk0, hps⟩ | ⟨hk0, hps⟩
              · have HK := Lib.hid hk0
                have HPR : PS b (.slice A1 n1 d1) (.int .u64 0) (.int .i32 0) (.int .i64 0) .nilIface (.int .u32 tok) wr ∨ PS b (.slice A1 n1 d1) (.int .u64 ((n1 : Int) + 1)) (.int .i32 1114112) (.int .i64 1) (.iface 44 (peV (f k3) k3 (packLC (fu k3) 1) (g k3) (fi k3))) (.int .u32 1) wr := .inl hps
                clear hk0 hps
                go_region_held3 (fun W => W.cell? (x2.add k3) = some (.string (f k3)) ∧ W.cell? (x3.add k3) = some (.string (g k3)) ∧ W.cell? (x4.add k3) = some (.bool (fi k3)) ∧ W.cell? (x5.add k3) = some (.int .u64 (fu k3)) ∧ Below w5.heap.size w5 W ∧ (PS b (.slice A1 n1 d1) (.int .u64 0) (.int .i32 0) (.int .i64 0) .nilIface (.int .u32 tok) W ∨ PS b (.slice A1 n1 d1) (.int .u64 ((n1 : Int) + 1)) (.int .i32 1114112) (.int .i64 1) (.iface 44 (peV (f k3) k3 (packLC (fu k3) 1) (g k3) (fi k3))) (.int .u32 1) W))
                  (first
                    | exact ⟨p2, p3, p4, p5, p6.drew, or_drew HPR⟩
                    | (go_split_ands; exact and5 (cells4 HC.out (bal5 ‹_› _)) (or_alloc ‹_› _))
                    | (go_split_ands; exact and5 (cells4 HC.out (bal5 ‹_› _).drew) (or_drew (or_alloc ‹_› _)))
                    | (exact and5 (cells4 HC.out ‹Below w5.heap.size w5 _›) (.inr ‹_›)))
                  (first
                    | (go_at_call 15; refine (newPos_k k3 (fu k3) _ (by omega) hfu).mono ?_; rintro e w' ⟨rfl, rfl⟩)
                    | (go_at_call 16; go_split_ands; refine (zerr_zero b n1 d1 A1 _ _ _ _ (f k3) (g k3) k3 (packLC (fu k3) 1) (fi k3) _ ‹_› m1).mono ?_; rintro e w' ⟨rfl, hhit, hbh⟩; have hbh5 := hbh _ hb5' (Below.size ‹Below w5.heap.size w5 _›); have hbt : Below w5.heap.size w5 w' := Below.trans ‹Below w5.heap.size w5 _› hbh5; clear hbh hbh5))
                go_wp2
                go_roundw
                case rel => exact ⟨k3 + 1, by omega, by go_num, hbt, .inr ⟨by omega, by have h := hhit; rw [HK.out] at h; exact h⟩⟩
                case measure => simp [intOf]; omega
              · have HK := Lib.hid hk0
                have HPR := hps
                clear hk0 hps
                go_region_held3 (fun W => W.cell? (x2.add k3) = some (.string (f k3)) ∧ W.cell? (x3.add k3) = some (.string (g k3)) ∧ W.cell? (x4.add k3) = some (.bool (fi k3)) ∧ W.cell? (x5.add k3) = some (.int .u64 (fu k3)) ∧ Below w5.heap.size w5 W ∧ PS b (.slice A1 n1 d1) (.int .u64 ((n1 : Int) + 1)) (.int .i32 1114112) (.int .i64 1) (.iface 44 (peV (f 0) 0 (packLC (fu 0) 1) (g 0) (fi 0))) (.int .u32 1) W)
                  (first
                    | exact ⟨p2, p3, p4, p5, p6.drew, PS.below HPR (Below.refl _ _).drew⟩
                    | (go_split_ands; exact and5 (cells4 HC.out (bal5 ‹_› _)) (PS.below ‹_› ((Below.refl _ _).alloc (Nat.le_refl _) _)))
                    | (go_split_ands; exact and5 (cells4 HC.out (bal5 ‹_› _).drew) (PS.below ‹_› ((Below.refl _ _).alloc (Nat.le_refl _) _).drew))
                    | (exact and5 (cells4 HC.out ‹Below w5.heap.size w5 _›) ‹_›))
                  (first
                    | (go_at_call 15; refine (newPos_k k3 (fu k3) _ (by omega) hfu).mono ?_; rintro e w' ⟨rfl, rfl⟩)
                    | (go_at_call 16; go_split_ands; refine (zerr_next b _ _ _ _ _ _ (f k3) (g k3) k3 (packLC (fu k3) 1) (fi k3) _ ‹_›).mono ?_; rintro e w' ⟨rfl, hbh⟩; have hbt : Below w5.heap.size w5 w' := Below.trans ‹Below w5.heap.size w5 _› (hbh.mono (Below.size ‹Below w5.heap.size w5 _›)); have hhit := PS.below ‹PS b _ _ _ _ _ _ _› hbh; clear hbh))
                go_wp2
                go_roundw
                case rel => exact ⟨k3 + 1, by omega, by go_num, hbt, .inr ⟨by omega, hhit⟩⟩
                case measure => simp [intOf]; omega
            · have hkn3 : ¬ (k3 : Int) < (n2 : Int) := by omega
              rcases HST.out with ⟨hk0, hps⟩ | ⟨hk0, hps⟩
              · obtain rfl : k3 = n2 := by omega
                subst hk0
                have HPS0 := Lib.hid hps
                clear hps
                go_wp2_with (first
                  | (go_at_call 17; refine (noErr_yes b _ _ _ _ _ _ HPS0.out).mono ?_; rintro e w' ⟨rfl, hq⟩; have HPS1 := Lib.hid (HPS0.out.below hq); have HQ := Lib.hid hq; clear hq)
                  | (go_at_call 18; refine (ztok b _ _ _ _ _ tok _ HPS1.out).mono ?_; rintro e w' ⟨rfl, rfl⟩))
                go_ret
                have t1 := bel2 HB5.out HBL.out
                exact ⟨by first | rfl | simp, bel2 t1 HQ.out⟩
              · have hn0 : 0 < n2 := by omega
                have hnz : ((n2 : Int) == 0) = false := by simp; omega
                have HPR := hps
                obtain ⟨x2, rfl, q2⟩ := HF.out 0 hn0
                obtain ⟨x3, rfl, q3⟩ := HG.out 0 hn0
                obtain ⟨x4, rfl, q4⟩ := HO.out 0 hn0
                obtain ⟨x5, rfl, q5⟩ := HR5.out 0 hn0
                have HC : Hid (w5.cell? x2 = some (.string (f 0)) ∧ w5.cell? x3 = some (.string (g 0)) ∧ w5.cell? x4 = some (.bool (fi 0)) ∧ w5.cell? x5 = some (.int .u64 (fu 0))) := ⟨by simpa [Addr.add] using q2, by simpa [Addr.add] using q3, by simpa [Addr.add] using q4, by simpa [Addr.add] using q5⟩
                clear q2 q3 q4 q5 hps
                obtain ⟨p2, p3, p4, p5, p6⟩ := cells4' HC.out HBL.out
                have hfu := Hu0.out 0 hn0
                have i0 : (0 : Int) < (n2 : Int) := by omega
                go_upto_region 32 with fail
                go_region_held3 (fun W => W.cell? x2 = some (.string (f 0)) ∧ W.cell? x3 = some (.string (g 0)) ∧ W.cell? x4 = some (.bool (fi 0)) ∧ W.cell? x5 = some (.int .u64 (fu 0)) ∧ Below w5.heap.size w5 W ∧ PS b (.slice A1 n1 d1) (.int .u64 ((n1 : Int) + 1)) (.int .i32 1114112) (.int .i64 1) (.iface 44 (peV (f 0) 0 (packLC (fu 0) 1) (g 0) (fi 0))) (.int .u32 1) W)
                  ((exact keepS HC.out HBL.out HPR (by repeat (first | with_reducible exact Below.refl _ _ | with_reducible apply Below.drew | with_reducible apply bal))))
                  (first
                    | (go_at_call 15; refine (newPos_k 0 (fu 0) _ (by omega) hfu).mono ?_; rintro e w' ⟨rfl, rfl⟩))
                all_goals go_split_ands
                all_goals clear HC HF HG HO HR5 p2 p3 p4 p5 p6
                all_goals
                  rename_i hb9 hp9
                  have HB9 := Lib.hid hb9
                  have HP9 := Lib.hid hp9
                  clear hb9 hp9
                  go_wp2_with (first
                    | (go_at_call 19; refine (errIs_yes b _ _ _ _ _ (f 0) (g 0) 0 (packLC (fu 0) 1) (fi 0) _ HP9.out).mono ?_; rintro e wq ⟨rfl, hq⟩; have HP10 := Lib.hid (HP9.out.below hq); have HQ := Lib.hid hq; clear hq)
                    | (go_at_call 20; refine (atEOF_yes b n1 _ _ _ HP10.out m1).mono ?_; rintro e w' ⟨rfl, rfl⟩))
                  go_ret
                  have t1 := bel2 HB5.out HB9.out
                  exact ⟨by first | rfl | simp, bel2 t1 HQ.out⟩
end EP
end Go.Proofs.Ytefgeoadfjghaaa
