/- The contracts of the functions of n010_163 that FnIfsJoinModel calls: zzBytes_FnIfsJoinModel, zzBytesOf, zzFirstRuneSize, newConfigIfs, ifsJoin. Conditions: the bounds that each names, and the decoder's tables. -/
import Derived.Test.YtdiimpggoejphaaDoorRuneLen
import Derived.Test.YtdiimpggoejphaaDoorPlain
import Derived.Test.YtdiimpggoejphaaDoorShelf
import Derived.OwnWalk
import Derived.BigQuiet
namespace Go.Proofs.YtdiimpggoejphaaDoor
open Go.RowKit
namespace IJ

/-- the bounds that a true zzBytes_ gives -/
def Small (s : ByteArray) (n : Nat) (f : Nat → ByteArray) : Prop := s.size ≤ 1048576 ∧ n ≤ 1048576 ∧ sumL f n ≤ 1048576 ∧ ∀ i, i < n → (f i).size ≤ 1048576
def Way (n : Nat) (f : Nat → ByteArray) (vz vi : Value) : Prop := ∃ k z : Nat, k ≤ n ∧ z ≤ 1048576 ∧ vi = .int .i64 k ∧ vz = .int .i64 z ∧ sumL f k ≤ z ∧ ∀ i, i < k → (f i).size ≤ 1048576
set_option maxHeartbeats 2000000 in
theorem bytes_any (s : ByteArray) (a : Option Addr) (n c : Nat) (f : Nat → ByteArray) (w : World) (h : SRow w a n f) (hs : ∀ i, i < n → (f i).size ≤ 9223372036854775807) (hn : n ≤ 9223372036854775807) (hm : s.size ≤ 9223372036854775807) :
    Calls Tryd.prog 9 #[.string s, .slice a n c] w (AnyBool (Small s n f) w) := by
  have H := Lib.hid h
  have HS := Lib.hid hs
  clear h hs
  by_cases hs1 : 1048576 < s.size
  · have hb : (1048576 : Int) < (s.size : Int) := by omega
    go_enter Tryd.func9, Tryd.ntmps9
    go_wp2
    go_ret
    exact ⟨false, rfl, (fun h => by cases h), rfl⟩
  have hs2 : ¬ (1048576 : Int) < (s.size : Int) := by omega
  by_cases hbig : 1048576 < n
  · have hb : (1048576 : Int) < (n : Int) := by omega
    go_enter Tryd.func9, Tryd.ntmps9
    go_wp2
    go_ret
    exact ⟨false, rfl, (fun h => by cases h), rfl⟩
  have hb : ¬ (1048576 : Int) < (n : Int) := by omega
  by_cases hbig2 : 1048576 < s.size + n
  · have hb : (1048576 : Int) < (s.size : Int) + (n : Int) := by omega
    go_enter Tryd.func9, Tryd.ntmps9
    go_wp2
    go_ret
    exact ⟨false, rfl, (fun h => by cases h), rfl⟩
  have hb2 : ¬ (1048576 : Int) < (s.size : Int) + (n : Int) := by omega
  go_enter Tryd.func9, Tryd.ntmps9
  go_wp2
  go_loop [5, 6] (fun vz vi => Way n f vz vi) (fun _ vi => n - (intOf vi).toNat)
  case atStart => exact ⟨0, s.size + n, Nat.zero_le _, by omega, rfl, by go_num, by simp [sumL], fun i hi => absurd hi (Nat.not_lt_zero i)⟩
  case round =>
    obtain ⟨k, z, hk, hz, rfl, rfl, hall, hsm⟩ := hrel
    have HM := Lib.hid hsm
    clear hsm
    by_cases hlt : k < n
    · obtain ⟨y, rfl, hc⟩ := H.out k hlt
      have hsz := HS.out k hlt
      have i0 : (0 : Int) ≤ (k : Int) := by omega
      have i1 : (k : Int) < (n : Int) := by omega
      by_cases h1 : 1048576 < (f k).size
      · go_wp2
        go_ret
        exact ⟨false, rfl, (fun h => by cases h), rfl⟩
      by_cases h2 : 1048576 < z + (f k).size
      · go_wp2
        go_ret
        exact ⟨false, rfl, (fun h => by cases h), rfl⟩
      · go_wp2
        go_round
        case rel =>
          refine ⟨k + 1, z + (f k).size, by omega, by omega, by go_num, by go_num, by simp only [sumL]; omega, fun i hi => ?_⟩
          rcases Nat.lt_or_ge i k with h | h
          · exact HM.out i h
          · obtain rfl : i = k := by omega
            omega
        case measure => simp [intOf]; omega
    · have hnk : ¬ (k : Int) < (n : Int) := by omega
      obtain rfl : k = n := by omega
      go_wp2
      go_ret
      exact ⟨true, rfl, (fun _ => ⟨by omega, by omega, by omega, HM.out⟩), rfl⟩
theorem ret_int {k : IntKind} {a b : Int} (h : a = b) : Ending.returned (.int k a) = .returned (.int k b) := by rw [h]
set_option maxHeartbeats 2000000 in
set_option maxRecDepth 100000 in
theorem bytesOf_any (a : Option Addr) (n c : Nat) (f : Nat → ByteArray) (w : World) (h : SRow w a n f) (hs : ∀ i, i < n → (f i).size ≤ 1048576) (hn : n ≤ 1048576) :
    Calls Tryd.prog 10 #[.slice a n c] w (AnyNat 8388608 w) := by
  have H := Lib.hid h
  have HS := Lib.hid hs
  clear h hs
  go_enter Tryd.func10, Tryd.ntmps10
  go_wp2
  go_loop [3, 4] (fun vz vi => ∃ k z : Nat, k ≤ n ∧ z ≤ 2097152 ∧ vi = .int .i64 k ∧ vz = .int .i64 z) (fun _ vi => n - (intOf vi).toNat)
  case atStart => exact ⟨0, 0, Nat.zero_le _, by omega, rfl, rfl⟩
  case round =>
    obtain ⟨k, z, hk, hz, rfl, rfl⟩ := hrel
    by_cases hlt : k < n
    · obtain ⟨y, rfl, hc⟩ := H.out k hlt
      have hsz := HS.out k hlt
      have i0 : (0 : Int) ≤ (k : Int) := by omega
      have i1 : (k : Int) < (n : Int) := by omega
      by_cases h2 : (2097152 : Int) < (z : Int) + (((f k).size : Int) + 8)
      · go_wp2
        go_ret
        exact ⟨z + ((f k).size + 8), ret_int (by simp), by omega, rfl⟩
      · go_wp2
        go_round
        case rel => exact ⟨k + 1, z + ((f k).size + 8), by omega, by omega, by go_num, by go_num⟩
        case measure => simp [intOf]; omega
    · have hnk : ¬ (k : Int) < (n : Int) := by omega
      go_wp2
      go_ret
      exact ⟨z, rfl, by omega, rfl⟩
theorem first_any (s : ByteArray) (w : World) (h : 0 < s.size) (hs : s.size ≤ 1048576) :
    Calls Tryd.prog 12 #[.string s] w fun e w' => e = .returned (.int .i64 (Utf8.decode s 0).2) ∧ w = w' := by
  go_enter Tryd.func12, Tryd.ntmps12
  go_wp2_with (go_at_call 17; refine (RL.runeLen s _ h hs).mono ?_; rintro e w1 ⟨r, rfl, ⟨r0, r4, hr⟩, rfl⟩; have HR := Lib.hid hr; clear hr; by_cases hz : r = 0)
  · go_ret
    refine ⟨ret_int ?_, rfl⟩
    have := HR.out
    rw [if_pos (by omega)] at this
    omega
  · go_ret
    refine ⟨ret_int ?_, rfl⟩
    have := HR.out
    rw [if_neg (by omega)] at this
    omega
set_option maxRecDepth 100000 in
theorem config_any (s : ByteArray) (w : World) :
    Calls Tryd.prog 14 #[.string s] w fun e w' => e = .returned (.pointer (some ⟨w.heap.size, 0, none⟩)) ∧ w'.cell? ⟨w.heap.size, 25, none⟩ = some (.string s) ∧ w.heap.size < w'.heap.size ∧ Below w.heap.size w w' := by
  go_enter Tryd.func14, Tryd.ntmps14
  go_wp2
  go_ret
  exact ⟨rfl, by simp, by simp, (Below.refl _ _).alloc (Nat.le_refl _) _⟩
/-- what a join hands back -/
def Joined (s : ByteArray) (f : Nat → ByteArray) (n : Nat) (w : World) (e : Ending) (w' : World) : Prop := e = .returned (.string ⟨(jn f (sepOf s).data.toList n).toArray⟩) ∧ Below w.heap.size w w'
theorem strJoin (s : ByteArray) (f : Nat → ByteArray) (n c : Nat) (a : Option Addr) (w : World) (hr : SRow w a n f) (ha : 0 < n → ∃ bk, a = some ⟨bk, 0, none⟩ ∧ bk < w.heap.size) (hc : n ≤ c ∨ n = 0) (hn : n ≤ 1048576) (hsum : sumL f n ≤ 1048576) :
    Calls Tryd.prog 23 #[.slice a n c, .string (sepOf s)] w (Joined s f n w) := by
  by_cases h0 : n = 0
  · subst h0
    refine (Tryd.strings_Join_none a c (sepOf s) w).mono ?_
    rintro e w' ⟨rfl, rfl⟩
    exact ⟨rfl, Below.refl _ _⟩
  · obtain ⟨bk, rfl, hbk⟩ := ha (by omega)
    have hl := jn_len f (sepOf s).data.toList (by have := sepOf_le4 s; simpa using this) n
    have := Tryd.strings_Join bk 0 c (xsOf f n) (sepOf s) w (fun j x hx => by
      obtain ⟨hj, rfl⟩ := xsOf_at f n j x hx
      obtain ⟨y, hy, hc⟩ := hr j hj
      injection hy with hy
      subst hy
      have : (⟨bk, 0, none⟩ : Addr).add j = ⟨bk, 0 + j, none⟩ := by unfold Addr.add; split <;> simp_all
      rw [← this]; exact hc) hbk (by rw [xsOf_length]; omega) (by rw [xsOf_length]; omega) (by rw [join_jn]; omega)
    rw [xsOf_length, join_jn] at this
    exact this
theorem nonempty (s : ByteArray) (h : 0 < s.size) : s.toList.isEmpty = false := by
  rw [ByteArray.toList_eq, List.isEmpty_eq_false_iff]
  intro hh
  have : s.data.toList.length = s.size := by simp
  rw [hh] at this
  simp at this; omega
set_option maxRecDepth 100000 in
set_option maxHeartbeats 2000000 in
theorem ifsJoin_any (s : ByteArray) (f : Nat → ByteArray) (b n c : Nat) (a : Option Addr) (w : World) (hT : Lib.Utf8Tabs 1 2 w) (hb : w.cell? ⟨b, 25, none⟩ = some (.string s)) (hs : s.size ≤ 1048576) (hr : SRow w a n f) (ha : 0 < n → ∃ bk, a = some ⟨bk, 0, none⟩ ∧ bk < w.heap.size) (hc : n ≤ c ∨ n = 0) (hn : n ≤ 1048576) (hsum : sumL f n ≤ 1048576) :
    Calls Tryd.prog 18 #[.pointer (some ⟨b, 0, none⟩), .slice a n c] w (Joined s f n w) := by
  have HR := Lib.hid hr
  have HA := Lib.hid ha
  have HT := Lib.hid hT
  clear hr ha hT
  by_cases h0 : s.size = 0
  · have e0 : s = ⟨#[]⟩ := by
      apply ByteArray.ext
      exact Array.eq_empty_of_size_eq_zero h0
    subst e0
    go_enter Tryd.func18, Tryd.ntmps18
    go_wp2_with (go_at_call 23; (have hj := strJoin ⟨#[]⟩ f n c a _ HR.out HA.out hc hn hsum); rw [sepOf_zero _ rfl] at hj; refine hj.mono ?_; rintro e w1 ⟨rfl, hb1⟩; rw [sepOf_zero _ rfl]; have HB := Lib.hid hb1; clear hb1 hj)
    go_ret
    exact ⟨by rw [sepOf_zero _ rfl]; rfl, HB.out⟩
  · have hp : 0 < s.size := by omega
    have hne := nonempty s hp
    have hle := size_le s hp
    have hlei : ((Utf8.decode s 0).2 : Int) ≤ (s.size : Int) := by omega
    have hd : Lib.decodeGo s = Utf8.decode s 0 := by simp [Lib.decodeGo, h0]
    go_enter Tryd.func18, Tryd.ntmps18
    go_wp2_with (first
      | (go_at_call 22; refine (Tryd.utf8_DecodeRuneInString s _ HT.out).mono ?_; rw [hd]; rintro e w1 ⟨rfl, hb1⟩; have HB := Lib.hid hb1; have c1 : w1.cell? ⟨b, 25, none⟩ = some (.string s) := cell_later hb1 hb; clear hb1)
      | (go_at_call 23; (have hj := strJoin s f n c a _ (HR.out.below HB.out) (fun h => by obtain ⟨bk, h1, h2⟩ := HA.out h; exact ⟨bk, h1, Nat.lt_of_lt_of_le h2 HB.out.size⟩) hc hn hsum); rw [sepOf_pos _ hp] at hj; refine hj.mono ?_; rintro e w2 ⟨rfl, hb2⟩; have HB2 := Lib.hid hb2; clear hb2 hj))
    go_ret
    exact ⟨rfl, HB.out.trans (HB2.out.mono HB.out.size)⟩
theorem zjoin_any (s : ByteArray) (f : Nat → ByteArray) (b n c : Nat) (a : Option Addr) (w : World) (hT : Lib.Utf8Tabs 1 2 w) (hb : w.cell? ⟨b, 25, none⟩ = some (.string s)) (hs : s.size ≤ 1048576) (hr : SRow w a n f) (ha : 0 < n → ∃ bk, a = some ⟨bk, 0, none⟩ ∧ bk < w.heap.size) (hc : n ≤ c ∨ n = 0) (hn : n ≤ 1048576) (hsum : sumL f n ≤ 1048576) :
    Calls Tryd.prog 13 #[.pointer (some ⟨b, 0, none⟩), .slice a n c] w (Joined s f n w) := by
  have H := Lib.hid (ifsJoin_any s f b n c a w hT hb hs hr ha hc hn hsum)
  clear hT hr ha
  go_enter Tryd.func13, Tryd.ntmps13
  go_wp2_with (go_at_call 18; refine H.out.mono ?_; rintro e w1 ⟨rfl, hb1⟩; have HB := Lib.hid hb1; clear hb1)
  go_ret
  exact ⟨rfl, HB.out⟩
end IJ
end Go.Proofs.YtdiimpggoejphaaDoor
