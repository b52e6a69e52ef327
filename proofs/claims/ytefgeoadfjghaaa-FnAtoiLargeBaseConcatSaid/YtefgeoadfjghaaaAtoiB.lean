/- The contracts of zzB1AllDigits and zzB1Zeros (helpers of the law on atoiLargeBase). Conditions: the lengths that each contract names. -/
import Derived.Test.YtefgeoadfjghaaaAtoi
namespace Go.Proofs.Ytefgeoadfjghaaa.Atoi
open Go.RowKit

def allB (base : Int) (l : List UInt8) : Bool := l.all (okB base)

set_option maxHeartbeats 1000000 in
theorem allDigits_any (s : ByteArray) (base : Int) (w : World) (hs : s.size ≤ 1048576) :
    Calls Try.prog 22 #[.string s, .int .i64 base] w fun e w' => e = .returned (.bool (allB base s.data.toList)) ∧ w = w' := by
  go_enter Try.func22, Try.ntmps22
  go_wp2
  go_loop [5] (fun i => ∃ k : Nat, k ≤ s.size ∧ i = .int .i64 k ∧ (s.data.toList.take k).all (okB base) = true) (fun i => s.size - (intOf i).toNat)
  case atStart => exact ⟨0, Nat.zero_le _, rfl, rfl⟩
  case round =>
    obtain ⟨k, hk, rfl, ha⟩ := hrel
    have HA := Lib.hid ha
    clear ha
    by_cases hlt : k < s.size
    · have HT := Lib.hid (take_snoc s k hlt)
      obtain ⟨d, hd⟩ : ∃ d, d = digV s[k] := ⟨_, rfl⟩
      have HD := Lib.hid hd
      by_cases h1 : d < 0
      · clear hd
        go_wp2_with (go_at_call 34; refine (digVal_any _ _).mono ?_; rintro e w' ⟨rfl, rfl⟩; rw [← HD.out])
        go_ret
        refine ⟨ret_bool ?_, rfl⟩
        symm
        rw [allB, List.all_eq_false]
        exact ⟨s[k], by rw [show s[k] = s.data.toList[k]'(by simpa using hlt) from rfl]; exact List.getElem_mem _, by rw [okB_no HD.out.symm (.inl h1)]; decide⟩
      by_cases h2 : base ≤ d
      · clear hd
        go_wp2_with (go_at_call 34; refine (digVal_any _ _).mono ?_; rintro e w' ⟨rfl, rfl⟩; rw [← HD.out])
        go_ret
        refine ⟨ret_bool ?_, rfl⟩
        symm
        rw [allB, List.all_eq_false]
        exact ⟨s[k], by rw [show s[k] = s.data.toList[k]'(by simpa using hlt) from rfl]; exact List.getElem_mem _, by rw [okB_no HD.out.symm (.inr h2)]; decide⟩
      · clear hd
        go_wp2_with (go_at_call 34; refine (digVal_any _ _).mono ?_; rintro e w' ⟨rfl, rfl⟩; rw [← HD.out])
        go_round
        case rel => exact ⟨k + 1, by omega, by go_num, by rw [HT.out]; exact all_snoc HA.out (okB_yes HD.out.symm (by omega) (by omega))⟩
        case measure => simp [intOf]; omega
    · go_wp2
      go_ret
      refine ⟨ret_bool ?_, rfl⟩
      have := HA.out
      rw [List.take_of_length_le (by simp; omega)] at this
      exact this.symm

theorem info5 : (Try.prog.info? 5).map (fun i => (i.zero, i.size, i.bytes)) = some (some (.int .u8 0), 1, 1) := by kernel_rfl

/-- k zeros in front of what is not yet written -/
def zRow (k n : Nat) : List Value := List.replicate k (.int .u8 48) ++ List.replicate (n - k) (.int .u8 0)
theorem zRow_zero (n : Nat) : zRow 0 n = List.replicate n (.int .u8 0) := by simp [zRow]
theorem zRow_set (k n : Nat) (h : k < n) : (zRow k n).set k (.int .u8 48) = zRow (k + 1) n := by
  unfold zRow
  rw [List.set_append_right _ _ (by simp)]
  simp only [List.length_replicate, Nat.sub_self]
  rw [show n - k = (n - (k + 1)) + 1 by omega, List.replicate_succ, List.set_cons_zero, List.replicate_succ', List.append_assoc]
  rfl
theorem zRow_at (k n j : Nat) (h : j < n) : ∃ v, (zRow k n)[j]? = some v := by
  have : j < (zRow k n).length := by simp [zRow]; omega
  exact ⟨_, List.getElem?_eq_getElem this⟩

def zeroBytes (n : Nat) : ByteArray := ⟨(List.replicate n 48).toArray⟩
theorem zeroBytes_size (n : Nat) : (zeroBytes n).size = n := by show (List.replicate n (48 : UInt8)).toArray.size = n; simp
theorem zeroBytes_list (n : Nat) : (zeroBytes n).data.toList = List.replicate n 48 := by show (List.replicate n (48 : UInt8)).toArray.toList = _; simp

set_option maxHeartbeats 1000000 in
theorem zeros_any (n : Nat) (w : World) (hn : n ≤ 65536) :
    Calls Try.prog 24 #[.int .i64 n] w fun e w' => e = .returned (.string (zeroBytes n)) ∧ Below w.heap.size w w' := by
  obtain ⟨i0, hi, hz0, hz1, hz2⟩ := info_parts info5
  go_enter Try.func24, Try.ntmps24
  go_wp2_with (at_make; refine wpList_make_full _ rfl _ _ _ rfl w.heap.size 5 i0 (.int .u8 0) 1 Try.underlying26 hi hz0 hz1 .i64 .i64 _ _ n rfl rfl rfl rfl (by rw [hz2]; omega) (by unfold maxLen; omega) (Nat.le_refl _) ?_; intro w1 hown hgrow)
  have hown0 : w1.ownsRow w.heap.size 5 1 (.slice (some ⟨w.heap.size, 0, none⟩) n n) n (zRow 0 n) := by
    rw [zRow_zero, ← toList_madeCells_one]
    have := hown
    simp only [Nat.mul_one] at this
    exact this
  have hB : Below w.heap.size w w1 := (Below.refl _ _).grown hgrow (Nat.le_refl _) (fun k hk => by cases hk)
  clear hown hgrow
  go_loopw [4] (fun i wr => ∃ k : Nat, k ≤ n ∧ i = .int .i64 k ∧ wr.ownsRow w.heap.size 5 1 (.slice (some ⟨w.heap.size, 0, none⟩) n n) n (zRow k n) ∧ Below w.heap.size w wr) (fun i _ => n - (intOf i).toNat)
  case atStart => exact ⟨0, Nat.zero_le _, rfl, hown0, hB⟩
  case round =>
    obtain ⟨k, hk, rfl, hown, hb⟩ := hrel
    have HO := Lib.hid hown
    have HB := Lib.hid hb
    by_cases hlt : k < n
    · obtain ⟨v, hv⟩ := zRow_at k n k hlt
      have hc := hown.cellAt k (by omega)
      rw [hv] at hc
      have hf := hown.frozenAt k
      have i0 : (0 : Int) ≤ (k : Int) := by omega
      have i1 : (k : Int) < (n : Int) := by omega
      clear hown hb hv hown0 hB
      go_wp2
      go_roundw
      case rel => exact ⟨k + 1, by omega, by go_num, by rw [← zRow_set k n hlt]; exact (HO.out.stored k _).1, HB.out.setCell (Nat.le_refl _) _⟩
      case measure => simp [intOf]; omega
    · have hkn : k = n := by omega
      have hconv := run_convert_bytes_back (P := Try.prog) wr 26 9 5 ⟨w.heap.size, 0, none⟩ n (List.replicate n 48) Try.underlying26 Try.underlying5 Try.underlying9 (fun j hj => by
        have hj' : j < n := by simpa using hj
        have := hown.cellAt j (by omega)
        rw [hkn] at this
        simp only [zRow, Nat.sub_self, List.replicate_zero, List.append_nil] at this
        rw [List.getElem?_replicate_of_lt hj'] at this
        have hadd : (⟨w.heap.size, 0, none⟩ : Addr).add j = ⟨w.heap.size, j, none⟩ := by unfold Addr.add; split <;> simp_all
        rw [hadd]
        simpa using this)
      rw [List.length_replicate, show (⟨(List.replicate n 48).toArray⟩ : ByteArray) = zeroBytes n from rfl] at hconv
      clear hown hb hown0 hB hkn
      go_wp2
      go_ret
      exact ⟨rfl, HB.out⟩
end Go.Proofs.Ytefgeoadfjghaaa.Atoi
