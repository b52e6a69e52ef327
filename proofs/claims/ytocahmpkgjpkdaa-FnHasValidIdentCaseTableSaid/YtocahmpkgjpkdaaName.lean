/- ValidName and the law's byte model of a name: one plain function on bytes, and the contracts of ValidName, zzModelName and what they call. Conditions: lengths up to 2^20. -/
import Derived.Test.YtocahmpkgjpkdaaPs
namespace Go.Proofs.Ytocahmpkgjpkdaa
open Go.RowKit

def digB (a : Int) : Bool := decide (48 ≤ a ∧ a ≤ 57)
def letB (a : Int) : Bool := decide ((97 ≤ a ∧ a ≤ 122) ∨ (65 ≤ a ∧ a ≤ 90))
def startB (a : Int) : Bool := letB a || a == 95
def restB (a : Int) : Bool := startB a || digB a
/-- all of it so far fits -/
def preB : List UInt8 → Bool
  | [] => true
  | c :: r => startB c.toNat && r.all fun c => restB c.toNat
/-- a shell name, by bytes -/
def nameB : List UInt8 → Bool
  | [] => false
  | c :: r => startB c.toNat && r.all fun c => restB c.toNat

theorem nameB_pre {l : List UInt8} (h : l ≠ []) : nameB l = preB l := by cases l with | nil => exact absurd rfl h | cons c r => rfl
theorem preB_snoc_nil (c : UInt8) : preB ([] ++ [c]) = startB c.toNat := by simp [preB]
theorem preB_snoc {l : List UInt8} (h : l ≠ []) (c : UInt8) : preB (l ++ [c]) = (preB l && restB c.toNat) := by
  cases l with
  | nil => exact absurd rfl h
  | cons a r => simp [preB, Bool.and_assoc]
theorem preB_false_append {l : List UInt8} (h : preB l = false) (r : List UInt8) : preB (l ++ r) = false := by
  cases l with
  | nil => simp [preB] at h
  | cons a l =>
    simp only [preB, List.cons_append, List.all_append] at *
    rw [← Bool.and_assoc, h]; rfl

theorem take_snoc (s : ByteArray) (k : Nat) (h : k < s.size) : s.data.toList.take (k + 1) = s.data.toList.take k ++ [s[k]] := by
  rw [List.take_succ_eq_append_getElem (by simpa using h)]; rfl
theorem ne_nil_of_size {s : ByteArray} (h : 0 < s.size) : s.data.toList ≠ [] := by
  intro e
  have : s.data.toList.length = 0 := by rw [e]; rfl
  have h2 : s.data.toList.length = s.size := rfl
  omega
theorem take_ne_nil {s : ByteArray} {k : Nat} (h : k ≤ s.size) (h0 : 0 < k) : s.data.toList.take k ≠ [] := by
  intro e
  have : (s.data.toList.take k).length = 0 := by rw [e]; rfl
  have h2 : s.data.toList.length = s.size := rfl
  rw [List.length_take] at this
  omega

/-- one byte more: at the head the first rule, behind it the second -/
theorem pre_next {s : ByteArray} {k : Nat} (h : k < s.size) (hp : preB (s.data.toList.take k) = true) : preB (s.data.toList.take (k + 1)) = (if k = 0 then startB s[k].toNat else restB s[k].toNat) := by
  rw [take_snoc s k h]
  by_cases h0 : k = 0
  · subst h0
    rw [if_pos rfl]
    exact preB_snoc_nil _
  · rw [if_neg h0, preB_snoc (take_ne_nil (by omega) (by omega)), hp, Bool.true_and]
theorem name_bad {s : ByteArray} {k : Nat} (h : k < s.size) (hp : preB (s.data.toList.take (k + 1)) = false) : false = nameB s.data.toList := by
  have h2 := preB_false_append hp (s.data.toList.drop (k + 1))
  rw [List.take_append_drop] at h2
  rw [nameB_pre (ne_nil_of_size (by omega)), h2]
theorem name_good {s : ByteArray} {k : Nat} (h : ¬ k < s.size) (h0 : 0 < s.size) (hp : preB (s.data.toList.take k) = true) : true = nameB s.data.toList := by
  rw [List.take_of_length_le (by have h2 : s.data.toList.length = s.size := rfl; omega)] at hp
  rw [nameB_pre (ne_nil_of_size h0), hp]

set_option maxHeartbeats 400000 in
theorem dig_any (a : Int) (w : World) :
    Calls Try.prog 40 #[.int .i32 a] w fun e w' => e = .returned (.bool (digB a)) ∧ w = w' := by
  by_cases h1 : 48 ≤ a <;> by_cases h2 : a ≤ 57
  all_goals
    go_enter Try.func40, Try.ntmps40
    go_wp2
    go_ret
    exact ⟨ret_bool (by simp [digB]; omega), rfl⟩
set_option maxHeartbeats 400000 in
theorem let_any (a : Int) (w : World) :
    Calls Try.prog 39 #[.int .i32 a] w fun e w' => e = .returned (.bool (letB a)) ∧ w = w' := by
  by_cases h1 : 97 ≤ a <;> by_cases h2 : a ≤ 122 <;> by_cases h3 : 65 ≤ a <;> by_cases h4 : a ≤ 90 <;> try omega
  all_goals
    go_enter Try.func39, Try.ntmps39
    go_wp2
    go_ret
    exact ⟨ret_bool (by simp [letB]; omega), rfl⟩
set_option maxHeartbeats 400000 in
theorem start_any (a : Int) (w : World) :
    Calls Try.prog 41 #[.int .u8 a] w fun e w' => e = .returned (.bool (startB a)) ∧ w = w' := by
  rcases Bool.eq_false_or_eq_true (a == 95) with h5 | h5
  · go_enter Try.func41, Try.ntmps41
    go_wp2
    go_ret
    exact ⟨ret_bool (by rw [startB, h5, Bool.or_true]), rfl⟩
  · by_cases h1 : 97 ≤ a <;> by_cases h2 : a ≤ 122 <;> by_cases h3 : 65 ≤ a <;> by_cases h4 : a ≤ 90 <;> try omega
    all_goals
      go_enter Try.func41, Try.ntmps41
      go_wp2
      go_ret
      exact ⟨ret_bool (by rw [startB, h5, Bool.or_false]; simp [letB]; omega), rfl⟩
set_option maxHeartbeats 400000 in
theorem rest_any (a : Int) (w : World) :
    Calls Try.prog 42 #[.int .u8 a] w fun e w' => e = .returned (.bool (restB a)) ∧ w = w' := by
  rcases Bool.eq_false_or_eq_true (startB a) with h5 | h5
  · go_enter Try.func42, Try.ntmps42
    go_wp2_with (go_at_call 41; refine (start_any _ _).mono ?_; rintro e w' ⟨rfl, rfl⟩)
    go_ret
    exact ⟨ret_bool (by rw [restB, h5, Bool.true_or]), rfl⟩
  · by_cases h1 : 48 ≤ a <;> by_cases h2 : a ≤ 57 <;> try omega
    all_goals
      go_enter Try.func42, Try.ntmps42
      go_wp2_with (go_at_call 41; refine (start_any _ _).mono ?_; rintro e w' ⟨rfl, rfl⟩)
      go_ret
      exact ⟨ret_bool (by rw [restB, h5, Bool.false_or, digB]; simp <;> omega), rfl⟩
set_option maxHeartbeats 1000000 in
theorem model_any (s : ByteArray) (w : World) (hs : s.size ≤ 1048576) :
    Calls Try.prog 19 #[.string s] w fun e w' => e = .returned (.bool (nameB s.data.toList)) ∧ w = w' := by
  by_cases h0 : s.size = 0
  · have hn : nameB s.data.toList = false := by
      have : s.data.toList = [] := List.length_eq_zero_iff.1 h0
      rw [this]; rfl
    rw [hn]
    have hz : ((s.size : Int) == 0) = true := by rw [beq_iff_eq]; omega
    clear h0
    go_enter Try.func19, Try.ntmps19
    go_wp2
    go_ret
    exact ⟨rfl, rfl⟩
  · have hz : ((s.size : Int) == 0) = false := by rw [beq_eq_false_iff_ne]; omega
    have hp : 0 < s.size := by omega
    have HP1 := Lib.hid (pre_next (k := 0) hp rfl)
    rcases Bool.eq_false_or_eq_true (startB s[0].toNat) with hb | hb
    · have HQ : Hid (preB (s.data.toList.take 1) = true) := by rw [HP1.out, if_pos rfl]; exact hb
      go_enter Try.func19, Try.ntmps19
      go_wp2_with (go_at_call 41; refine (start_any _ _).mono ?_; rintro e w' ⟨rfl, rfl⟩)
      go_loop [3] (fun i => ∃ k : Nat, 1 ≤ k ∧ k ≤ s.size ∧ i = .int .i64 k ∧ preB (s.data.toList.take k) = true) (fun i => s.size - (intOf i).toNat)
      case atStart => exact ⟨1, by omega, by omega, rfl, HQ.out⟩
      case round =>
        obtain ⟨k, hk1, hk, rfl, hpre⟩ := hrel
        have HN := Lib.hid hpre
        clear hpre
        by_cases hlt : k < s.size
        · have HX := Lib.hid (pre_next hlt HN.out)
          rcases Bool.eq_false_or_eq_true (restB s[k].toNat) with hr | hr
          · go_wp2_with (go_at_call 42; refine (rest_any _ _).mono ?_; rintro e w' ⟨rfl, rfl⟩)
            go_round
            case rel => exact ⟨k + 1, by omega, by omega, by go_num, by rw [HX.out, if_neg (by omega)]; exact hr⟩
            case measure => simp [intOf]; omega
          · go_wp2_with (go_at_call 42; refine (rest_any _ _).mono ?_; rintro e w' ⟨rfl, rfl⟩)
            go_ret
            exact ⟨ret_bool (name_bad hlt (by rw [HX.out, if_neg (by omega)]; exact hr)), rfl⟩
        · go_wp2
          go_ret
          exact ⟨ret_bool (name_good hlt hp HN.out), rfl⟩
    · have HQ : Hid (preB (s.data.toList.take 1) = false) := by rw [HP1.out, if_pos rfl]; exact hb
      go_enter Try.func19, Try.ntmps19
      go_wp2_with (go_at_call 41; refine (start_any _ _).mono ?_; rintro e w' ⟨rfl, rfl⟩)
      go_ret
      exact ⟨ret_bool (name_bad hp HQ.out), rfl⟩

theorem letB_high {a : Int} (h : 128 ≤ a) : letB a = false := by simp [letB]; omega
theorem digB_high {a : Int} (h : 128 ≤ a) : digB a = false := by simp [digB]; omega
theorem startB_high {a : Int} (h : 128 ≤ a) : startB a = false := by
  rw [startB, letB_high h, Bool.false_or, beq_eq_false_iff_ne]; omega
theorem restB_high {a : Int} (h : 128 ≤ a) : restB a = false := by rw [restB, startB_high h, digB_high h]; rfl
theorem iter_below (w : World) (s : ByteArray) (p : Nat) : Below w.heap.size w (w.iter s p) := (Below.refl _ _).alloc (Nat.le_refl _) _

set_option maxHeartbeats 2000000 in
theorem valid_any (s : ByteArray) (w : World) (hs : s.size ≤ 1048576) :
    Calls Try.prog 18 #[.string s] w fun e w' => e = .returned (.bool (nameB s.data.toList)) ∧ Below w.heap.size w w' := by
  by_cases h0 : s.size = 0
  · have he : s = ⟨#[]⟩ := by
      cases s with | mk d => cases d with | mk l => have : l = [] := List.length_eq_zero_iff.1 h0; rw [this]
    subst he
    go_enter Try.func18, Try.ntmps18
    go_wp2
    go_ret
    exact ⟨rfl, Below.refl _ _⟩
  · have hp : 0 < s.size := by omega
    have hie : s.toList.isEmpty = false := by
      rw [ByteArray.toList_eq]
      cases h : s.data.toList with
      | nil => exact absurd h (ne_nil_of_size hp)
      | cons a l => rfl
    go_enter Try.func18, Try.ntmps18
    go_wp2
    go_loopw [] (fun wr => ∃ k : Nat, k ≤ s.size ∧ wr = w.iter s k ∧ preB (s.data.toList.take k) = true) (fun wr => s.size - wr.iterPos w.heap.size)
    case atStart => exact ⟨0, Nat.zero_le _, rfl, rfl⟩
    case round =>
      obtain ⟨k, hk, rfl, hpre⟩ := hrel
      have HN := Lib.hid hpre
      clear hpre
      by_cases hlt : k < s.size
      · have HX := Lib.hid (pre_next hlt HN.out)
        by_cases ha : s[k].toNat < 128
        · have hnx : ∀ ty, (Instr.next (.pointer (some ⟨w.heap.size, 0, none⟩)) true ty).run Try.prog (w.iter s k) = _ := fun ty => run_next_ascii w s k ty hlt ha
          obtain ⟨b, hb⟩ : ∃ b : Int, b = (s[k].toNat : Int) := ⟨_, rfl⟩
          have HB := Lib.hid hb
          rw [← hb] at hnx
          clear hb
          have hi0 : (0 : Int) ≤ (k : Int) := by omega
          rcases Bool.eq_false_or_eq_true (letB b) with hl | hl
          · go_wp2_with (first | (go_at_call 39; refine (let_any _ _).mono ?_; rintro e w' ⟨rfl, rfl⟩) | (go_at_call 40; refine (dig_any _ _).mono ?_; rintro e w' ⟨rfl, rfl⟩))
            go_roundw
            case rel => exact ⟨k + 1, by omega, rfl, by rw [HX.out, ← HB.out, restB, startB, hl]; simp⟩
            case measure => simp; omega
          rcases Bool.eq_false_or_eq_true (b == 95) with h9 | h9
          · go_wp2_with (first | (go_at_call 39; refine (let_any _ _).mono ?_; rintro e w' ⟨rfl, rfl⟩) | (go_at_call 40; refine (dig_any _ _).mono ?_; rintro e w' ⟨rfl, rfl⟩))
            go_roundw
            case rel => exact ⟨k + 1, by omega, rfl, by rw [HX.out, ← HB.out, restB, startB, hl, h9]; simp⟩
            case measure => simp; omega
          by_cases hk0 : k = 0
          · subst hk0
            go_wp2_with (first | (go_at_call 39; refine (let_any _ _).mono ?_; rintro e w' ⟨rfl, rfl⟩) | (go_at_call 40; refine (dig_any _ _).mono ?_; rintro e w' ⟨rfl, rfl⟩))
            go_ret
            exact ⟨ret_bool (name_bad hlt (by rw [HX.out, if_pos (by trivial), ← HB.out, startB, hl, h9]; rfl)), iter_below w s _⟩
          · have hkp : (0 : Int) < (k : Int) := by omega
            rcases Bool.eq_false_or_eq_true (digB b) with hdg | hdg
            · go_wp2_with (first | (go_at_call 39; refine (let_any _ _).mono ?_; rintro e w' ⟨rfl, rfl⟩) | (go_at_call 40; refine (dig_any _ _).mono ?_; rintro e w' ⟨rfl, rfl⟩))
              go_roundw
              case rel => exact ⟨k + 1, by omega, rfl, by rw [HX.out, if_neg hk0, ← HB.out, restB, hdg, Bool.or_true]⟩
              case measure => simp; omega
            · go_wp2_with (first | (go_at_call 39; refine (let_any _ _).mono ?_; rintro e w' ⟨rfl, rfl⟩) | (go_at_call 40; refine (dig_any _ _).mono ?_; rintro e w' ⟨rfl, rfl⟩))
              go_ret
              exact ⟨ret_bool (name_bad hlt (by rw [HX.out, if_neg hk0, ← HB.out, restB, startB, hl, h9, hdg]; rfl)), iter_below w s _⟩
        · have hnx : ∀ ty, (Instr.next (.pointer (some ⟨w.heap.size, 0, none⟩)) true ty).run Try.prog (w.iter s k) = _ := fun ty => run_next_any w s k ty hlt
          have hh := decode_high s k hlt (by omega)
          obtain ⟨b, hb⟩ : ∃ b : Int, b = ((Utf8.decode s k).1 : Int) := ⟨_, rfl⟩
          obtain ⟨n, hn⟩ : ∃ n : Nat, n = (Utf8.decode s k).2 := ⟨_, rfl⟩
          rw [← hb, ← hn] at hnx
          have hb1 : 128 ≤ b := by omega
          have hl := letB_high hb1
          have hdg := digB_high hb1
          have h9 : (b == 95) = false := by rw [beq_eq_false_iff_ne]; omega
          clear hb hn hh
          have HBad : Hid (preB (s.data.toList.take (k + 1)) = false) := by
            rw [HX.out]
            split
            · exact startB_high (by omega)
            · exact restB_high (by omega)
          by_cases hk0 : k = 0
          · subst hk0
            go_wp2_with (first | (go_at_call 39; refine (let_any _ _).mono ?_; rintro e w' ⟨rfl, rfl⟩) | (go_at_call 40; refine (dig_any _ _).mono ?_; rintro e w' ⟨rfl, rfl⟩))
            go_ret
            exact ⟨ret_bool (name_bad hlt HBad.out), iter_below w s _⟩
          · have hkp : (0 : Int) < (k : Int) := by omega
            go_wp2_with (first | (go_at_call 39; refine (let_any _ _).mono ?_; rintro e w' ⟨rfl, rfl⟩) | (go_at_call 40; refine (dig_any _ _).mono ?_; rintro e w' ⟨rfl, rfl⟩))
            go_ret
            exact ⟨ret_bool (name_bad hlt HBad.out), iter_below w s _⟩
      · have hnx : ∀ ty, (Instr.next (.pointer (some ⟨w.heap.size, 0, none⟩)) true ty).run Try.prog (w.iter s k) = _ := fun ty => run_next_end w s k ty hlt
        go_wp2
        go_ret
        exact ⟨ret_bool (name_good hlt hp HN.out), iter_below w s k⟩
end Go.Proofs.Ytocahmpkgjpkdaa
