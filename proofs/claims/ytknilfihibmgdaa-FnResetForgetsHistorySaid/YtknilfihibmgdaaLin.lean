/- A cheap check that a region which draws its order reads first and ends in a forced tail: linear in its operations; it gives the library's 'lexTailB'. No conditions. -/
import Derived.Test.YtknilfihibmgdaaRows
import Derived.WalkKit
import Derived.StillTailTactics
namespace Go.Proofs.Ytknilfihibmgdaa
namespace LIN

variable (md : Region.Mode)

/-- o waits for operation i -/
def waitsL (i : Nat) (o : Oper) : Bool := o.after.any fun e => Region.binds md e && e.on == i
/-- operation j of a region whose head of n operations lays its values into the slots c, c + 1, .. -/
def opOk (c n : Nat) (o : Oper) (j : Nat) : Bool :=
  (match o.op with | .select .. => false | _ => true) && o.guard.isNone && (o.after.all fun e => !Region.binds md e || decide (e.on < j)) &&
  (if j < n then o.dst == some (c + j) else match o.dst with | none => true | some d => decide (c + n ≤ d)) &&
  (o.op.operands.toList.all fun x => match x with | .tmp t => decide (t < c) || (decide (t < c + j) && waitsL md (t - c) o) | _ => true) &&
  (decide (j ≤ n) || waitsL md (j - 1) o)
def opsOk (c n : Nat) : Nat → List Oper → Bool
  | _, [] => true
  | j, o :: rest => opOk md c n o j && opsOk c n (j + 1) rest
/-- each operation of the list but the last is waited for by one of the next six or by the last -/
def sinkL (last : Oper) : Nat → List Oper → Bool
  | _, [] => true
  | _, [_] => true
  | i, _ :: o :: rest => (((o :: rest).take 6).any (waitsL md i) || waitsL md i last) && sinkL last (i + 1) (o :: rest)
def linB (c n : Nat) (l : List Oper) : Bool :=
  opsOk md c n 0 l && match l[n]? with
    | none => false
    | some o => sinkL md o 0 (l.take (n + 1))

variable {md}
theorem opsOk_at {c n : Nat} : ∀ (l : List Oper) (k j : Nat) (o : Oper), opsOk md c n k l = true → l[j]? = some o → opOk md c n o (k + j) = true
  | [], _, _, _, _, h => by simp at h
  | x :: l, k, 0, o, h, ho => by
    simp only [opsOk, Bool.and_eq_true] at h
    simp only [List.getElem?_cons_zero, Option.some.injEq] at ho
    subst ho
    exact h.1
  | x :: l, k, j + 1, o, h, ho => by
    simp only [opsOk, Bool.and_eq_true] at h
    have := opsOk_at l (k + 1) j o h.2 (by simpa using ho)
    rwa [show k + 1 + j = k + (j + 1) by omega] at this
theorem sinkL_at {last : Oper} : ∀ (l : List Oper) (k : Nat), sinkL md last k l = true → l.getLast? = some last → ∀ i, i + 1 < l.length → ∃ j o, i < j ∧ l[j]? = some o ∧ waitsL md (k + i) o = true
  | [], _, _, _, i, h => by simp at h
  | [_], _, _, _, i, h => by simp at h
  | a :: o :: rest, k, h, hl, i, hi => by
    simp only [sinkL, Bool.and_eq_true] at h
    cases i with
    | zero =>
      rcases Bool.or_eq_true_iff.1 h.1 with h1 | h1
      · obtain ⟨x, hx, hw⟩ := List.any_eq_true.1 h1
        obtain ⟨j, hj⟩ := List.mem_iff_getElem?.1 (List.mem_of_mem_take hx)
        exact ⟨j + 1, x, by omega, by simpa using hj, hw⟩
      · refine ⟨(o :: rest).length, last, by simp, ?_, h1⟩
        rw [List.getLast?_eq_getElem?] at hl
        simpa using hl
    | succ i =>
      obtain ⟨j, x, h1, h2, h3⟩ := sinkL_at (o :: rest) (k + 1) h.2 (by simpa using hl) i (by simpa using hi)
      exact ⟨j + 1, x, by omega, by simpa using h2, by rwa [show k + (i + 1) = k + 1 + i by omega]⟩
theorem waitsL_iff {i : Nat} {o : Oper} : waitsL md i o = true ↔ ∃ e ∈ o.after, Region.binds md e = true ∧ e.on = i := by
  unfold waitsL
  constructor
  · intro h
    obtain ⟨e, he, hb⟩ := Array.any_eq_true'.1 h
    simp only [Bool.and_eq_true, beq_iff_eq] at hb
    exact ⟨e, he, hb.1, hb.2⟩
  · rintro ⟨e, he, h1, h2⟩
    exact Array.any_eq_true'.2 ⟨e, he, by simp [h1, h2]⟩

/-- just the first k of m operations are listed -/
def Up (L : Array Bool) (k m : Nat) : Prop := L.size = m ∧ ∀ j, j < m → ∀ b, L.getD j b = decide (j < k)
theorem Up.zero (m : Nat) : Up (Array.replicate m false) 0 m := ⟨by simp, fun j hj b => by simp [hj]⟩
theorem Up.next {L : Array Bool} {k m : Nat} (h : Up L k m) (hk : k < m) : Up (L.setIfInBounds k true) (k + 1) m := by
  refine ⟨by simpa using h.1, fun j hj b => ?_⟩
  have hs := h.1
  have := h.2 j hj b
  simp only [Array.getD_eq_getD_getElem?, Array.getElem?_setIfInBounds] at this ⊢
  by_cases hjk : k = j
  · subst hjk
    simp [hs, hk]
  · rw [if_neg hjk, this]
    rw [show decide (j < k) = decide (j < k + 1) from by rw [decide_eq_decide]; omega]

section
variable {c n : Nat} {l : List Oper}
theorem ok_parts {o : Oper} {j : Nat} (h : opOk md c n o j = true) :
    o.guard = none ∧ (∀ e ∈ o.after, Region.binds md e = true → e.on < j) ∧ (j < n → o.dst = some (c + j)) ∧ (n ≤ j → ∀ d, o.dst = some d → c + n ≤ d) ∧
    (∀ t, Operand.tmp t ∈ o.op.operands.toList → t < c ∨ (t < c + j ∧ waitsL md (t - c) o = true)) ∧ (n < j → waitsL md (j - 1) o = true) := by
  simp only [opOk, Bool.and_eq_true] at h
  obtain ⟨⟨⟨⟨⟨_, h2⟩, h3⟩, h4⟩, h5⟩, h6⟩ := h
  refine ⟨by simpa using h2, fun e he hb => ?_, fun hj => ?_, fun hj d hd => ?_, fun t ht => ?_, fun hj => ?_⟩
  · have := Array.all_eq_true_iff_forall_mem.1 h3 e he
    simpa [hb] using this
  · rw [if_pos hj] at h4
    simpa using h4
  · rw [if_neg (by omega), hd] at h4
    simpa using h4
  · have := List.all_eq_true.1 h5 _ ht
    simpa using this
  · rcases Bool.or_eq_true_iff.1 h6 with h | h
    · have : j ≤ n := by simpa using h
      omega
    · exact h
theorem looks_of {ops : Array Oper} {o : Oper} (hg : o.guard = none) {t : Tmp} (ht : t ∈ o.looksAt ops) : Operand.tmp t ∈ o.op.operands.toList := by
  unfold Oper.looksAt at ht
  rw [hg] at ht
  simp only [List.append_nil, List.mem_filterMap] at ht
  obtain ⟨x, hx, hy⟩ := ht
  split at hy
  · simp only [Option.some.injEq] at hy
    subst hy
    exact hx
  · cases hy
theorem ready_has (h : opsOk md c n 0 l = true) {L : Array Bool} {k : Nat} (hu : Up L k l.length) (hk : k < l.length) : k ∈ Region.ready md l.toArray L := by
  rw [mem_ready]
  refine ⟨by rw [hu.2 k hk]; simp, l[k], by simp [hk], fun e he hb => ?_⟩
  have hp := (ok_parts (opsOk_at l 0 k l[k] h (List.getElem?_eq_getElem hk))).2.1 e he hb
  rw [hu.2 e.on (by omega)]
  simpa using hp
theorem free_up (h : opsOk md c n 0 l = true) {L : Array Bool} {k : Nat} (hu : Up L k l.length) (hk : k < n) (hn : n < l.length) : Region.free md l.toArray L k = true := by
  have hkl : k < l.length := by omega
  have hok := ok_parts (opsOk_at l 0 k l[k] h (List.getElem?_eq_getElem hkl))
  simp only [Nat.zero_add] at hok
  unfold Region.free
  simp only [List.getElem?_toArray, List.getElem?_eq_getElem hkl, List.size_toArray]
  refine List.all_eq_true.2 fun j hj => ?_
  have hjl : j < l.length := List.mem_range.1 hj
  rcases Nat.lt_trichotomy j k with hlt | rfl | hgt
  · rw [hu.2 j hjl]
    simp [hlt]
  · simp
  · have hoj := ok_parts (opsOk_at l 0 j l[j] h (List.getElem?_eq_getElem hjl))
    simp only [Nat.zero_add] at hoj
    simp only [List.getElem?_eq_getElem hjl]
    by_cases hw : waitsL md k l[j] = true
    · have : (l[j].after.any fun e => Region.binds md e && e.on == k) = true := hw
      simp [this]
    · have hap : l[k].apart l.toArray l[j] = true := by
        unfold Oper.apart
        rw [hok.2.2.1 hk]
        have a1 : (c + k) ∉ l[j].looksAt l.toArray := fun hm => by
          rcases hoj.2.2.2.2.1 _ (looks_of hoj.1 hm) with h1 | ⟨_, h1⟩
          · exact absurd h1 (Nat.not_lt.2 (Nat.le_add_right c k))
          · exact hw (by rwa [show c + k - c = k by omega] at h1)
        have a2 : l[j].dst ≠ some (c + k) := fun he => by
          rcases Nat.lt_or_ge j n with hj' | hj'
          · rw [hoj.2.2.1 hj'] at he
            simp only [Option.some.injEq] at he
            omega
          · have := hoj.2.2.2.1 hj' _ he
            omega
        have a3 : ∀ d, l[j].dst = some d → d ∉ l[k].looksAt l.toArray := fun d hd hm => by
          have hdk : c + k < d := by
            rcases Nat.lt_or_ge j n with hj' | hj'
            · rw [hoj.2.2.1 hj'] at hd
              simp only [Option.some.injEq] at hd
              omega
            · have := hoj.2.2.2.1 hj' _ hd
              omega
          rcases hok.2.2.2.2.1 _ (looks_of hok.1 hm) with h1 | ⟨h1, _⟩
          · exact absurd (Nat.lt_trans (Nat.lt_of_le_of_lt (Nat.le_add_right c k) hdk) h1) (Nat.lt_irrefl c)
          · exact absurd (Nat.lt_trans hdk h1) (Nat.lt_irrefl _)
        simp only [Bool.and_eq_true, Bool.not_eq_true', bne_iff_ne, ne_eq]
        refine ⟨⟨by simpa using a1, a2⟩, ?_⟩
        cases hd : l[j].dst with
        | none => rfl
        | some d => simpa using a3 d hd
      simp [hap]
theorem range_filter_one (p : Nat → Bool) (k : Nat) : ∀ m, (∀ i, i < m → p i = decide (i = k)) → (List.range m).filter p = if k < m then [k] else []
  | 0, _ => by simp
  | m + 1, hp => by
    have ih := range_filter_one p k m (fun i hi => hp i (by omega))
    rw [List.range_succ, List.filter_append, ih]
    have := hp m (by omega)
    by_cases h1 : m = k
    · subst h1
      simp [this]
    · simp only [h1, decide_false] at this
      by_cases h2 : k < m
      · simp [this, h2, show k < m + 1 by omega]
      · simp [this, h2, show ¬ k < m + 1 by omega]
theorem seq_up (h : opsOk md c n 0 l = true) : ∀ (g : Nat) (L : Array Bool) (k : Nat), Up L k l.length → n ≤ k → k + g = l.length → Region.seqB md l.toArray g k L = true
  | 0, L, k, hu, hn, hg => by
    unfold Region.seqB
    rw [List.isEmpty_iff, List.eq_nil_iff_forall_not_mem]
    intro j hj
    obtain ⟨h1, o, ho, _⟩ := mem_ready.1 hj
    have hjl : j < l.length := by
      have := (Array.getElem?_eq_some_iff.1 ho).1
      simpa using this
    rw [hu.2 j hjl] at h1
    simp at h1
    omega
  | g + 1, L, k, hu, hn, hg => by
    have hk : k < l.length := by omega
    simp only [Region.seqB, Bool.and_eq_true, decide_eq_true_eq]
    refine ⟨?_, seq_up h g _ (k + 1) (hu.next hk) (by omega) (by omega)⟩
    have hkr := ready_has h hu hk
    have hone : ∀ j, j < l.length → j ∈ Region.ready md l.toArray L → j = k := fun j hj hr => by
      obtain ⟨h1, o, ho, hall⟩ := mem_ready.1 hr
      rw [hu.2 j hj] at h1
      have h1 : ¬ j < k := by simpa using h1
      rcases Nat.eq_or_lt_of_le (Nat.le_of_not_lt h1) with h2 | h2
      · exact h2.symm
      · have ho' : l[j]? = some o := by simpa using ho
        have hoj := ok_parts (opsOk_at l 0 j o h ho')
        simp only [Nat.zero_add] at hoj
        obtain ⟨e, he, hb, hon⟩ := waitsL_iff.1 (hoj.2.2.2.2.2 (by omega))
        have := hall e he hb
        rw [hon, hu.2 (j - 1) (by omega)] at this
        have : j - 1 < k := by simpa using this
        omega
    have := range_filter_one (fun i => !L.getD i true && ((l.toArray[i]?).map (·.after.all fun e => !Region.binds md e || L.getD e.on false)).getD false) k l.length (fun i hi => by
      rw [Bool.eq_iff_iff, decide_eq_true_iff]
      constructor
      · intro hp
        refine hone i hi ?_
        unfold Region.ready
        rw [List.mem_filter]
        exact ⟨by simpa using hi, hp⟩
      · rintro rfl
        unfold Region.ready at hkr
        exact (List.mem_filter.1 hkr).2)
    rw [if_pos hk] at this
    unfold Region.ready
    simpa using this
theorem head_up (h : opsOk md c n 0 l = true) (hn : n < l.length) : ∀ (f k : Nat) (L : Array Bool), Up L k l.length → k + f = n → Region.lexHead md l.toArray (l.length - n) f k L = true
  | 0, k, L, hu, hf => by
    unfold Region.lexHead
    exact seq_up h _ L k hu (by omega) (by omega)
  | f + 1, k, L, hu, hf => by
    simp only [Region.lexHead, Bool.and_eq_true]
    exact ⟨⟨by simpa using ready_has h hu (by omega), free_up h hu (by omega) hn⟩, head_up h hn f (k + 1) _ (hu.next (by omega)) (by omega)⟩
theorem waitsFor_of {j i : Nat} {o : Oper} (ho : l[j]? = some o) (hw : waitsL md i o = true) : Region.waitsFor md l.toArray j i = true := by
  unfold Region.waitsFor
  simp only [List.getElem?_toArray, ho]
  exact hw
/-- the library's check out of the cheap one -/
theorem lexTail_of_lin (h : linB md c n l = true) : Region.lexTailB md l.toArray n = true := by
  unfold linB at h
  rw [Bool.and_eq_true] at h
  obtain ⟨h1, h2⟩ := h
  cases hl : l[n]? with
  | none => rw [hl] at h2; cases h2
  | some o =>
    rw [hl] at h2
    have hn : n < l.length := (List.getElem?_eq_some_iff.1 hl).1
    simp only [Region.lexTailB, Bool.and_eq_true, decide_eq_true_eq, List.size_toArray]
    refine ⟨⟨⟨⟨?_, hn⟩, ?_⟩, ?_⟩, head_up h1 hn n 0 _ (Up.zero _) (by omega)⟩
    · unfold Region.noSelect
      rw [Array.all_eq_true_iff_forall_mem]
      intro x hx
      obtain ⟨j, hj⟩ := List.mem_iff_getElem?.1 (by simpa using hx : x ∈ l)
      have := opsOk_at l 0 j x h1 hj
      simp only [opOk, Bool.and_eq_true] at this
      exact this.1.1.1.1.1
    · unfold Region.sinkB
      refine List.all_eq_true.2 fun i hi => ?_
      have hin : i < n := List.mem_range.1 hi
      have hlen : (l.take (n + 1)).length = n + 1 := by simp; omega
      obtain ⟨j, x, hij, hx, hw⟩ := sinkL_at (l.take (n + 1)) 0 h2 (by rw [List.getLast?_eq_getElem?, hlen, List.getElem?_take]; simpa using hl) i (by omega)
      have hjn : j < n + 1 := by
        have := (List.getElem?_eq_some_iff.1 hx).1
        omega
      rw [List.getElem?_take, if_pos hjn] at hx
      refine List.any_eq_true.2 ⟨j, List.mem_range.2 hjn, ?_⟩
      simp only [Bool.and_eq_true, decide_eq_true_eq]
      exact ⟨hij, waitsFor_of hx (by simpa using hw)⟩
    · unfold Region.chainB
      refine List.all_eq_true.2 fun t ht => ?_
      have htl : t < l.length := by simpa using ht
      rcases Nat.lt_or_ge n t with h3 | h3
      · have hp := ok_parts (opsOk_at l 0 t l[t] h1 (List.getElem?_eq_getElem htl))
        simp only [Nat.zero_add] at hp
        rw [waitsFor_of (List.getElem?_eq_getElem htl) (hp.2.2.2.2.2 h3)]
        simp
      · simp [h3]
end
end LIN
end Go.Proofs.Ytknilfihibmgdaa
