/- The contract of zzBytes_FnErrPassFirstErrorWinsOverScript: some bool, and the bounds where it is true. Conditions: the rows that it reads. -/
import Derived.Test.YtefgeoadfjghaaaErr
namespace Go.Proofs.Ytefgeoadfjghaaa
namespace EP
open Go.RowKit
/-- the bounds that a true zzBytes_ gives -/
def Small (n1 n2 n3 n4 n5 : Nat) (f g : Nat → ByteArray) : Prop := n1 ≤ 1048576 ∧ n2 ≤ 1048576 ∧ n3 ≤ 1048576 ∧ n4 ≤ 1048576 ∧ n5 ≤ 1048576 ∧ (∀ i, i < n2 → (f i).size ≤ 1048576) ∧ ∀ i, i < n3 → (g i).size ≤ 1048576
def Way (n : Nat) (f : Nat → ByteArray) (vz vi : Value) : Prop := ∃ k z : Nat, k ≤ n ∧ z ≤ 1048576 ∧ vi = .int .i64 k ∧ vz = .int .i64 z ∧ ∀ i, i < k → (f i).size ≤ 1048576
set_option maxRecDepth 100000 in
set_option maxHeartbeats 4000000 in
theorem bytes_any (tok : Int) (a1 a2 a3 a4 a5 : Option Addr) (n1 n2 n3 n4 n5 c1 c2 c3 c4 c5 : Nat) (f g : Nat → ByteArray) (w : World) (h : SRow w a2 n2 f) (h' : SRow w a3 n3 g) (hs : ∀ i, i < n2 → (f i).size ≤ 9223372036854775807) (hs' : ∀ i, i < n3 → (g i).size ≤ 9223372036854775807)
    (b1 : n1 ≤ 9223372036854775807) (b2 : n2 ≤ 9223372036854775807) (b3 : n3 ≤ 9223372036854775807) (b4 : n4 ≤ 9223372036854775807) (b5 : n5 ≤ 9223372036854775807) :
    Calls Try.prog 8 #[.int .u32 tok, .slice a1 n1 c1, .slice a2 n2 c2, .slice a3 n3 c3, .slice a4 n4 c4, .slice a5 n5 c5] w (AnyBool (Small n1 n2 n3 n4 n5 f g) w) := by
  have H := Lib.hid h
  have HS := Lib.hid hs
  have H' := Lib.hid h'
  have HS' := Lib.hid hs'
  clear h hs h' hs'
  by_cases e0 : 1048576 < n1
  · go_enter Try.func8, Try.ntmps8
    go_wp2
    go_ret
    exact ⟨false, rfl, (fun h => by cases h), rfl⟩
  by_cases e1 : 1048576 < n2
  · go_enter Try.func8, Try.ntmps8
    go_wp2
    go_ret
    exact ⟨false, rfl, (fun h => by cases h), rfl⟩
  by_cases e2 : 1048576 < n1 + n2
  · go_enter Try.func8, Try.ntmps8
    go_wp2
    go_ret
    exact ⟨false, rfl, (fun h => by cases h), rfl⟩
  go_enter Try.func8, Try.ntmps8
  go_wp2
  go_loop [13, 14] (fun vz vi => Way n2 f vz vi) (fun _ vi => n2 - (intOf vi).toNat)
  case atStart => exact ⟨0, n1 + n2, Nat.zero_le _, by omega, rfl, by go_num, fun i h => by omega⟩
  case round =>
    obtain ⟨k, z, hk, hz, rfl, rfl, hall⟩ := hrel
    have HA := Lib.hid hall
    clear hall
    by_cases hlt : k < n2
    · obtain ⟨x, rfl, hc⟩ := H.out k hlt
      have hsz := HS.out k hlt
      have i0 : (0 : Int) ≤ (k : Int) := by omega
      have i1 : (k : Int) < (n2 : Int) := by omega
      by_cases hbig : 1048576 < (f k).size
      · go_wp2
        go_ret
        exact ⟨false, rfl, (fun h => by cases h), rfl⟩
      by_cases hsum : 1048576 < z + (f k).size
      · go_wp2
        go_ret
        exact ⟨false, rfl, (fun h => by cases h), rfl⟩
      · go_wp2
        go_round
        case rel =>
          refine ⟨k + 1, z + (f k).size, by omega, by omega, by go_num, by go_num, fun i hi => ?_⟩
          rcases Nat.lt_or_ge i k with h | h
          · exact HA.out i h
          · have : i = k := by omega
            rw [this]; omega
        case measure => simp [intOf]; omega
    · obtain rfl : k = n2 := by omega
      by_cases g0 : 1048576 < n3
      · go_wp2
        go_ret
        exact ⟨false, rfl, (fun h => by cases h), rfl⟩
      by_cases g1 : 1048576 < z + n3
      · go_wp2
        go_ret
        exact ⟨false, rfl, (fun h => by cases h), rfl⟩
      go_wp2
      go_loop [13, 15] (fun vz vi => Way n3 g vz vi) (fun _ vi => n3 - (intOf vi).toNat)
      case atStart => exact ⟨0, z + n3, Nat.zero_le _, by omega, rfl, by go_num, fun i h => by omega⟩
      case round =>
        obtain ⟨k', z', hk', hz', rfl, rfl, hall⟩ := hrel
        have HA' := Lib.hid hall
        clear hall
        by_cases hlt : k' < n3
        · obtain ⟨x, rfl, hc⟩ := H'.out k' hlt
          have hsz := HS'.out k' hlt
          have i0 : (0 : Int) ≤ (k' : Int) := by omega
          have i1 : (k' : Int) < (n3 : Int) := by omega
          by_cases hbig : 1048576 < (g k').size
          · go_wp2
            go_ret
            exact ⟨false, rfl, (fun h => by cases h), rfl⟩
          by_cases hsum : 1048576 < z' + (g k').size
          · go_wp2
            go_ret
            exact ⟨false, rfl, (fun h => by cases h), rfl⟩
          · go_wp2
            go_round
            case rel =>
              refine ⟨k' + 1, z' + (g k').size, by omega, by omega, by go_num, by go_num, fun i hi => ?_⟩
              rcases Nat.lt_or_ge i k' with h | h
              · exact HA'.out i h
              · have : i = k' := by omega
                rw [this]; omega
            case measure => simp [intOf]; omega
        · obtain rfl : k' = n3 := by omega
          by_cases g2 : 1048576 < n4
          · go_wp2
            go_ret
            exact ⟨false, rfl, (fun h => by cases h), rfl⟩
          by_cases g3 : 1048576 < z' + n4
          · go_wp2
            go_ret
            exact ⟨false, rfl, (fun h => by cases h), rfl⟩
          by_cases g4 : 1048576 < n5
          · go_wp2
            go_ret
            exact ⟨false, rfl, (fun h => by cases h), rfl⟩
          by_cases g5 : 1048576 < z' + n4 + n5
          · go_wp2
            go_ret
            exact ⟨false, rfl, (fun h => by cases h), rfl⟩
          go_wp2
          go_ret
          exact ⟨true, rfl, (fun _ => ⟨by omega, by omega, by omega, by omega, by omega, HA.out, HA'.out⟩), rfl⟩
/-- the state behind the first error is kept by the rest; at the first it is made -/
theorem zerr_zero (b nb c : Nat) (A : Option Addr) (v2 v3 v4 v10 : Value) (s t : ByteArray) (o lc : Int) (inc : Bool) (w : World)
    (h : PS b (.slice A nb c) v2 v3 v4 .nilIface v10 w ∨ PS b (.slice A nb c) (.int .u64 ((nb : Int) + 1)) (.int .i32 1114112) (.int .i64 1) (.iface 44 (peV s o lc t inc)) (.int .u32 1) w) (hn : nb ≤ 1048576) :
    Calls Try.prog 16 #[.pointer (some ⟨b, 0, none⟩), peV s o lc t inc] w (Hit b nb (.slice A nb c) (peV s o lc t inc) w) := by
  rcases h with h | h
  · exact zerr_first b nb c A v2 v3 v4 v10 s t o lc inc w h hn
  · refine (zerr_next b _ _ _ _ _ _ s t o lc inc w h).mono ?_
    rintro e w' ⟨he, hb⟩
    exact ⟨he, h.below hb, fun B _ hw => hb.mono hw⟩
end EP
end Go.Proofs.Ytefgeoadfjghaaa
