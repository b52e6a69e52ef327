/- The contracts of recoverError and its exports over a parser known by its two counters. Conditions: the state that each contract names. -/
import Derived.Test.YtijilflnfdgdnaaRows
import Derived.WalkKit
import Derived.WalkSpells
import Derived.WalkLawsBesides
import Derived.Lib.Hide
import Derived.Outline
import Derived.Below
import Derived.Deep.QuietTactic
import Derived.BigQuiet
import Derived.Great.BuildSlice
namespace Go.Proofs.Ytijilflnfdgdnaa
open Go.RowKit

/-- the parser in block b has recovered d errors under the maximum m; nothing below w0's end has turned -/
def St (w0 : World) (b : Nat) (d m : Int) (W : World) : Prop :=
  W.cell? ⟨b, 22, none⟩ = some (.int .i64 d) ∧ W.frozen? ⟨b, 22, none⟩ = false ∧ W.cell? ⟨b, 23, none⟩ = some (.int .i64 m) ∧ w0.heap.size ≤ b ∧ Below w0.heap.size w0 W
theorem St.put {w0 W : World} {b : Nat} {d m : Int} (h : St w0 b d m W) (d' : Int) : St w0 b d' m (W.setCell ⟨b, 22, none⟩ (.int .i64 d')) := by
  obtain ⟨h1, h2, h3, h4, h5⟩ := h
  exact ⟨by go_simp, by go_simp, by go_simp, h4, h5.setCell h4 _⟩
theorem St.drewN {w0 W : World} {b : Nat} {d m : Int} (h : St w0 b d m W) (n : Nat) : St w0 b d m (W.drewN n) :=
  ⟨h.1, h.2.1, h.2.2.1, h.2.2.2.1, ⟨h.2.2.2.2.os, h.2.2.2.2.tape, h.2.2.2.2.output, h.2.2.2.2.size, h.2.2.2.2.block⟩⟩
/-- one call's answer and state -/
def Rec (w0 : World) (b : Nat) (d m : Int) (x : Bool) (e : Ending) (w' : World) : Prop := e = .returned (.bool x) ∧ St w0 b d m w'
set_option maxHeartbeats 1000000 in
theorem rec_yes (w0 : World) (b : Nat) (d m : Int) (w : World) (h : St w0 b d m w) (hd : d < m) (h0 : 0 ≤ d) (h1 : m ≤ 9223372036854775807) :
    Calls Try.prog 31 #[.pointer (some ⟨b, 0, none⟩)] w (Rec w0 b (d + 1) m true) := by
  have H := Lib.hid h
  obtain ⟨c1, c2, c3, -, -⟩ := h
  go_enter Try.func31, Try.ntmps31
  go_wp2
  go_quiet (fail)
  go_wp2
  go_ret
  exact ⟨rfl, (H.out.put (d + 1)).drewN _⟩
set_option maxHeartbeats 1000000 in
theorem rec_no (w0 : World) (b : Nat) (d m : Int) (w : World) (h : St w0 b d m w) (hd : ¬ d < m) :
    Calls Try.prog 31 #[.pointer (some ⟨b, 0, none⟩)] w (Rec w0 b d m false) := by
  have H := Lib.hid h
  obtain ⟨c1, c2, c3, -, -⟩ := h
  have hd' : decide (d < m) = false := by simpa using hd
  go_enter Try.func31, Try.ntmps31
  go_wp2
  go_quiet (fail)
  go_wp2
  go_ret
  exact ⟨rfl, H.out.drewN _⟩
theorem zrec_yes (w0 : World) (b : Nat) (d m : Int) (w : World) (h : St w0 b d m w) (hd : d < m) (h0 : 0 ≤ d) (h1 : m ≤ 9223372036854775807) :
    Calls Try.prog 18 #[.pointer (some ⟨b, 0, none⟩)] w (Rec w0 b (d + 1) m true) := by
  have H := Lib.hid h
  clear h
  go_enter Try.func18, Try.ntmps18
  go_wp2_with (go_at_call 31; refine (rec_yes w0 b d m _ H.out hd h0 h1).mono ?_; rintro e w' ⟨rfl, hq⟩; have HQ := Lib.hid hq; clear hq)
  go_ret
  exact ⟨rfl, HQ.out⟩
theorem zrec_no (w0 : World) (b : Nat) (d m : Int) (w : World) (h : St w0 b d m w) (hd : ¬ d < m) :
    Calls Try.prog 18 #[.pointer (some ⟨b, 0, none⟩)] w (Rec w0 b d m false) := by
  have H := Lib.hid h
  clear h
  go_enter Try.func18, Try.ntmps18
  go_wp2_with (go_at_call 31; refine (rec_no w0 b d m _ H.out hd).mono ?_; rintro e w' ⟨rfl, hq⟩; have HQ := Lib.hid hq; clear hq)
  go_ret
  exact ⟨rfl, HQ.out⟩
theorem zrecd (w0 : World) (b : Nat) (d m : Int) (w : World) (h : St w0 b d m w) :
    Calls Try.prog 19 #[.pointer (some ⟨b, 0, none⟩)] w fun e w' => e = .returned (.int .i64 d) ∧ w = w' := by
  obtain ⟨c1, c2, c3, -, -⟩ := h
  go_enter Try.func19, Try.ntmps19
  go_wp2
  go_ret
  exact ⟨rfl, rfl⟩
theorem built_at (d m : Int) : (Try.prog.built 94 [(21, .int .i64 d), (22, .int .i64 m)]).map (fun C => (C[22]?, C[23]?)) = some (some (.int .i64 d), some (.int .i64 m)) := by kernel_rfl
def NewP (w : World) (d m : Int) (x : Ending) (w' : World) : Prop := x = .returned (.pointer (some ⟨w.heap.size, 0, none⟩)) ∧ St w w.heap.size d m w'
set_option maxRecDepth 100000 in
set_option maxHeartbeats 1000000 in
theorem newRec (d m : Int) (w : World) : Calls Try.prog 17 #[.int .i64 d, .int .i64 m] w (NewP w d m) := by
  obtain ⟨C, hC, h⟩ := Option.map_eq_some_iff.1 (built_at d m)
  simp only [Prod.mk.injEq] at h
  have HC := Lib.hid hC
  have HS := Lib.hid h
  clear hC h
  go_enter Try.func17, Try.ntmps17
  go_wp2_with ((with_reducible refine wpList_buildTo rfl 94 _ rfl _ rfl C ?_ ?_); (focus (simp; exact HC.out)))
  go_ret
  obtain ⟨h1, h2⟩ := HS.out
  exact ⟨rfl, by go_simp, by go_simp, by go_simp, Nat.le_refl _, (Below.refl _ _).alloc (Nat.le_refl _) _⟩
end Go.Proofs.Ytijilflnfdgdnaa
