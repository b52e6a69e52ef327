/- What comes in as a dirty state, opened to its fields. No conditions. -/
import Derived.Test.YtknilfihibmgdaaDirtyG
import Derived.Deep.Slices
import Derived.Deep.Fields
import Derived.ProofKit
import Derived.OpenShut
import Derived.ChangeOld
namespace Go.Proofs.Ytknilfihibmgdaa
namespace DT
open Go.ChangeShapes Go.WideShapes Go.ChangeAt Go.RowKit Go.Deep

section
variable {H : Type} {enc : TypeId × Value → H} {w : World} {base : Nat} {held : Bool}
theorem u8_of {n : Int} (h : (Lit.int .u8 n).wf = true) : ((UInt8.ofNat n.toNat).toNat : Int) = n := by
  have h2 : IntKind.u8.min ≤ n ∧ n ≤ IntKind.u8.max := by simpa [Lit.wf] using h
  have h3 : IntKind.u8.min = 0 := by decide
  have h4 : IntKind.u8.max = 255 := by decide
  rw [h3, h4] at h2
  simp
  omega
theorem open_bytes {fuel : Nat} {cs : List Value} {x : DataW H × List MemPlace} (h : DataW.trod enc Try.prog w base (fun _ => true) held fuel 54 cs = some x) :
    ∃ A N C, ∃ l : List UInt8, cs = [.slice A N C] ∧ l.length = N ∧ BRow w A N C (fun j => ((l.getD j 0).toNat : Int)) ∧ N ≤ 9223372036854775807 := by
  rcases open_ints Try.underlying54 Try.underlying5 (by kernel_rfl) h with ⟨hcs, _⟩ | ⟨a, len, cap, zs, hcs, _, hl, hm, hz, _, hcell, hwz⟩
  · exact ⟨none, 0, 0, [], hcs, rfl, ⟨fun i hi => by omega, fun _ => ⟨rfl, rfl⟩⟩, by omega⟩
  · unfold maxLen at hm
    have hz : zs.length = cap := by simpa using hz
    refine ⟨some a, len, cap, (zs.take len).map (fun z => UInt8.ofNat z.toNat), hcs, by simp; omega, ⟨fun i hi => ⟨a, rfl, ?_⟩, (fun h => by cases h)⟩, by omega⟩
    rw [hcell i (by omega)]
    have hi' : i < zs.length := by omega
    have hw := u8_of (hwz zs[i] (List.getElem_mem hi'))
    simp only [List.getD_eq_getElem?_getD, List.getElem?_map, List.getElem?_take, if_pos hi, List.getElem?_eq_getElem hi', Option.map_some, Option.getD_some, hw]
theorem open_hdocs {fuel : Nat} {cs : List Value} {x : DataW H × List MemPlace} (h : DataW.trod enc Try.prog w base (fun _ => true) held fuel 68 cs = some x) :
    ∃ A N C, cs = [.slice A N C] ∧ HRow w A N ∧ (A = none → N = 0 ∧ C = 0) ∧ N ≤ 9223372036854775807 := by
  rcases open_slice Try.underlying68 h with ⟨hcs, _⟩ | ⟨a, len, cap, m, n, D, Pl, hcs, _, hl, hm, hmm, _, hall⟩
  · exact ⟨none, 0, 0, hcs, fun i hi => by omega, fun _ => ⟨rfl, rfl⟩, by omega⟩
  · unfold maxLen at hm
    have hmm : m = cap := by simpa using hmm
    refine ⟨some a, len, cap, hcs, fun i hi => ?_, (fun h => by cases h), by omega⟩
    obtain ⟨cs', hc, ht⟩ := hall i (by omega)
    have hone : Try.prog.cellsOf 54 = 1 := by kernel_rfl
    rw [hone, Nat.mul_one] at hc
    obtain ⟨A, N, C, l, rfl, _, hb, hN⟩ := open_bytes ht
    obtain ⟨_, _, hat⟩ := World.cells?_some hc
    have h0 := hat 0 (by omega)
    refine ⟨a, A, N, C, _, rfl, ?_, hb, hN⟩
    have ha : ∀ y : Addr, y.add 0 = y := fun y => by unfold Addr.add; simp
    rw [ha] at h0
    simpa using h0
/-- field j of a struct of one-cell fields -/
theorem field_at {t : TypeId} {fs : Array Field} {cs : Array Value} {xs : List (DataW H × List MemPlace)} {n : Nat} (hone : oneCellFields Try.prog fs = true) (hlen : xs.length = fs.size) (hsz : cs.size = fs.size)
    (hg : ∀ (i : Nat) (f : Field), fs[i]? = some f → DataW.trod enc Try.prog w base (fun _ => true) held n f.type ((cs.toList.drop f.offset).take (Try.prog.cellsOf f.type)) = xs[i]?)
    (j : Nat) (hj : (fs[j]?).map (·.type) = some t) : ∃ u y, cs[j]? = some u ∧ DataW.trod enc Try.prog w base (fun _ => true) held n t [u] = some y := by
  obtain ⟨f, hf, rfl⟩ := Option.map_eq_some_iff.1 hj
  obtain ⟨ho, hk⟩ := hone_of hone j f hf
  have hjl : j < fs.size := (Array.getElem?_eq_some_iff.1 hf).1
  have h1 := hg j f hf
  rw [ho, hk, List.getElem?_eq_getElem (by omega)] at h1
  have hd : (cs.toList.drop j).take 1 = [cs[j]] := by
    rw [List.drop_eq_getElem_cons (by simpa using (by omega : j < cs.size))]
    rfl
  rw [hd] at h1
  exact ⟨cs[j], _, Array.getElem?_eq_getElem (by omega), h1⟩
/-- what the walk is told of a dirty state -/
def Opened (w : World) (v : Value) : Prop := ∃ (r : Drt) (fb fl : Nat → Int), v = .agg r.cells ∧ BRow w r.bsA r.bsN r.bsC fb ∧ BRow w r.lbA r.lbN r.lbC fl ∧ HRow w r.hsA r.hsN ∧ (r.hsA = none → r.hsN = 0 ∧ r.hsC = 0) ∧ r.hsN ≤ 9223372036854775807
set_option maxRecDepth 100000 in
theorem open_dirty {r : Reach} {b0 : Nat} {v : Value} {d : DataW H} {p : List MemPlace} (hv : Value.okWide Try.prog w r b0 70 v) (h : DataW.Trod enc Try.prog w base (fun _ => true) held 70 v d p) : Opened w v := by
  obtain ⟨cs, rfl, hsz⟩ := okWide_struct Try.underlying70 hv
  have h32 : Try.prog.cellsOf 70 = 32 := by kernel_rfl
  rw [h32] at hsz
  obtain ⟨fuel, hf⟩ := h
  obtain ⟨xs, n, _, _, _, hlen, hg⟩ := DataW.trod_struct Try.underlying70 hf
  have F := fun (t : TypeId) => field_at (t := t) (enc := enc) (w := w) (base := base) (held := held) (n := n) (cs := cs) (xs := xs) (by kernel_rfl) hlen hsz hg
  obtain ⟨u0, y0, e0, t0⟩ := F 22 0 rfl
  obtain ⟨u1, y1, e1, t1⟩ := F 9 1 rfl
  obtain ⟨u2, y2, e2, t2⟩ := F 3 2 rfl
  obtain ⟨u3, y3, e3, t3⟩ := F 54 3 rfl
  obtain ⟨u4, y4, e4, t4⟩ := F 24 4 rfl
  obtain ⟨u5, y5, e5, t5⟩ := F 2 5 rfl
  obtain ⟨u6, y6, e6, t6⟩ := F 2 6 rfl
  obtain ⟨u7, y7, e7, t7⟩ := F 2 7 rfl
  obtain ⟨u8, y8, e8, t8⟩ := F 21 8 rfl
  obtain ⟨u9, y9, e9, t9⟩ := F 3 9 rfl
  obtain ⟨u10, y10, e10, t10⟩ := F 4 10 rfl
  obtain ⟨u11, y11, e11, t11⟩ := F 4 11 rfl
  obtain ⟨u12, y12, e12, t12⟩ := F 4 12 rfl
  obtain ⟨u13, y13, e13, t13⟩ := F 22 13 rfl
  obtain ⟨u14, y14, e14, t14⟩ := F 4 14 rfl
  obtain ⟨u15, y15, e15, t15⟩ := F 3 15 rfl
  obtain ⟨u16, y16, e16, t16⟩ := F 3 16 rfl
  obtain ⟨u17, y17, e17, t17⟩ := F 4 17 rfl
  obtain ⟨u18, y18, e18, t18⟩ := F 3 18 rfl
  obtain ⟨u19, y19, e19, t19⟩ := F 3 19 rfl
  obtain ⟨u20, y20, e20, t20⟩ := F 68 20 rfl
  obtain ⟨u21, y21, e21, t21⟩ := F 4 21 rfl
  obtain ⟨u22, y22, e22, t22⟩ := F 3 22 rfl
  obtain ⟨u23, y23, e23, t23⟩ := F 3 23 rfl
  obtain ⟨u24, y24, e24, t24⟩ := F 3 24 rfl
  obtain ⟨u25, y25, e25, t25⟩ := F 3 25 rfl
  obtain ⟨u26, y26, e26, t26⟩ := F 3 26 rfl
  obtain ⟨u27, y27, e27, t27⟩ := F 54 27 rfl
  obtain ⟨u28, y28, e28, t28⟩ := F 4 28 rfl
  obtain ⟨u29, y29, e29, t29⟩ := F 3 29 rfl
  obtain ⟨u30, y30, e30, t30⟩ := F 3 30 rfl
  obtain ⟨u31, y31, e31, t31⟩ := F 4 31 rfl
  obtain ⟨b0, k0, -, -⟩ := DataW.trod_int Try.underlying22 t0
  obtain ⟨b1, k1, -, -⟩ := DataW.trod_string Try.underlying9 t1
  obtain ⟨b2, k2, -, -⟩ := DataW.trod_int Try.underlying3 t2
  obtain ⟨A3, N3, C3, l3, k3, -, r3, -⟩ := open_bytes t3
  obtain ⟨b4, k4, -, -⟩ := DataW.trod_int Try.underlying24 t4
  obtain ⟨b5, k5, -, -⟩ := DataW.trod_int Try.underlying2 t5
  obtain ⟨b6, k6, -, -⟩ := DataW.trod_int Try.underlying2 t6
  obtain ⟨b7, k7, -, -⟩ := DataW.trod_int Try.underlying2 t7
  obtain ⟨b8, k8, -, -⟩ := DataW.trod_int Try.underlying21 t8
  obtain ⟨b9, k9, -, -⟩ := DataW.trod_int Try.underlying3 t9
  obtain ⟨b10, k10, -⟩ := DataW.trod_bool Try.underlying4 t10
  obtain ⟨b11, k11, -⟩ := DataW.trod_bool Try.underlying4 t11
  obtain ⟨b12, k12, -⟩ := DataW.trod_bool Try.underlying4 t12
  obtain ⟨b13, k13, -, -⟩ := DataW.trod_int Try.underlying22 t13
  obtain ⟨b14, k14, -⟩ := DataW.trod_bool Try.underlying4 t14
  obtain ⟨b15, k15, -, -⟩ := DataW.trod_int Try.underlying3 t15
  obtain ⟨b16, k16, -, -⟩ := DataW.trod_int Try.underlying3 t16
  obtain ⟨b17, k17, -⟩ := DataW.trod_bool Try.underlying4 t17
  obtain ⟨b18, k18, -, -⟩ := DataW.trod_int Try.underlying3 t18
  obtain ⟨b19, k19, -, -⟩ := DataW.trod_int Try.underlying3 t19
  obtain ⟨A20, N20, C20, k20, r20, z20, m20⟩ := open_hdocs t20
  obtain ⟨b21, k21, -⟩ := DataW.trod_bool Try.underlying4 t21
  obtain ⟨b22, k22, -, -⟩ := DataW.trod_int Try.underlying3 t22
  obtain ⟨b23, k23, -, -⟩ := DataW.trod_int Try.underlying3 t23
  obtain ⟨b24, k24, -, -⟩ := DataW.trod_int Try.underlying3 t24
  obtain ⟨b25, k25, -, -⟩ := DataW.trod_int Try.underlying3 t25
  obtain ⟨b26, k26, -, -⟩ := DataW.trod_int Try.underlying3 t26
  obtain ⟨A27, N27, C27, l27, k27, -, r27, -⟩ := open_bytes t27
  obtain ⟨b28, k28, -⟩ := DataW.trod_bool Try.underlying4 t28
  obtain ⟨b29, k29, -, -⟩ := DataW.trod_int Try.underlying3 t29
  obtain ⟨b30, k30, -, -⟩ := DataW.trod_int Try.underlying3 t30
  obtain ⟨b31, k31, -⟩ := DataW.trod_bool Try.underlying4 t31
  simp only [List.cons.injEq, and_true] at k0 k1 k2 k3 k4 k5 k6 k7 k8 k9 k10 k11 k12 k13 k14 k15 k16 k17 k18 k19 k20 k21 k22 k23 k24 k25 k26 k27 k28 k29 k30 k31
  subst k0 k1 k2 k3 k4 k5 k6 k7 k8 k9 k10 k11 k12 k13 k14 k15 k16 k17 k18 k19 k20 k21 k22 k23 k24 k25 k26 k27 k28 k29 k30 k31
  have hc : cs = (Drt.mk b0 b1 b2 A3 N3 C3 b4 b5 b6 b7 b8 b9 b10 b11 b12 b13 b14 b15 b16 b17 b18 b19 A20 N20 C20 b21 b22 b23 b24 b25 b26 A27 N27 C27 b28 b29 b30 b31).cells := by
    apply Array.ext_getElem?
    intro i
    match i with
    | 0 => exact e0
    | 1 => exact e1
    | 2 => exact e2
    | 3 => exact e3
    | 4 => exact e4
    | 5 => exact e5
    | 6 => exact e6
    | 7 => exact e7
    | 8 => exact e8
    | 9 => exact e9
    | 10 => exact e10
    | 11 => exact e11
    | 12 => exact e12
    | 13 => exact e13
    | 14 => exact e14
    | 15 => exact e15
    | 16 => exact e16
    | 17 => exact e17
    | 18 => exact e18
    | 19 => exact e19
    | 20 => exact e20
    | 21 => exact e21
    | 22 => exact e22
    | 23 => exact e23
    | 24 => exact e24
    | 25 => exact e25
    | 26 => exact e26
    | 27 => exact e27
    | 28 => exact e28
    | 29 => exact e29
    | 30 => exact e30
    | 31 => exact e31
    | i + 32 => rw [Array.getElem?_eq_none (by omega), Array.getElem?_eq_none (by show 32 ≤ i + 32; omega)]
  exact ⟨Drt.mk b0 b1 b2 A3 N3 C3 b4 b5 b6 b7 b8 b9 b10 b11 b12 b13 b14 b15 b16 b17 b18 b19 A20 N20 C20 b21 b22 b23 b24 b25 b26 A27 N27 C27 b28 b29 b30 b31, _, _, by rw [hc], r3, r27, r20, z20, m20⟩
end
end DT
end Go.Proofs.Ytknilfihibmgdaa
