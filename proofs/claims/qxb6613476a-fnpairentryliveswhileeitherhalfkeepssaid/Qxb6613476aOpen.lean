import Derived.Test.Qxb6613476aMap
import Derived.OpenShut
namespace Go.Proofs.Qxb6613476a
open Go.RowKit Go.ChangeShapes Go.WideShapes
set_option linter.unusedVariables false

theorem list16 {α : Type} : ∀ l : List α, l.length = 16 → ∃ x0 x1 x2 x3 x4 x5 x6 x7 x8 x9 x10 x11 x12 x13 x14 x15, l = [x0, x1, x2, x3, x4, x5, x6, x7, x8, x9, x10, x11, x12, x13, x14, x15]
  | [x0, x1, x2, x3, x4, x5, x6, x7, x8, x9, x10, x11, x12, x13, x14, x15], _ => ⟨x0, x1, x2, x3, x4, x5, x6, x7, x8, x9, x10, x11, x12, x13, x14, x15, rfl⟩

/-- a [16]byte argument, opened -/
theorem open_key {H : Type} {enc : TypeId × Value → H} {w : World} {base : Nat} {spare : Nat → Bool} {held : Bool} {r : Reach} {b0 : Nat} {v : Value} {d : DataW H} {p : List MemPlace}
    (hv : Value.okWide Try.prog w r b0 22 v) (h : DataW.Trod enc Try.prog w base spare held 22 v d p) :
    ∃ k0 k1 k2 k3 k4 k5 k6 k7 k8 k9 k10 k11 k12 k13 k14 k15 : Int, v = .agg #[.int .u8 k0, .int .u8 k1, .int .u8 k2, .int .u8 k3, .int .u8 k4, .int .u8 k5, .int .u8 k6, .int .u8 k7, .int .u8 k8, .int .u8 k9, .int .u8 k10, .int .u8 k11, .int .u8 k12, .int .u8 k13, .int .u8 k14, .int .u8 k15] ∧ p = [] ∧ (Lit.int .u8 k0).wf = true ∧ (Lit.int .u8 k1).wf = true ∧ (Lit.int .u8 k2).wf = true ∧ (Lit.int .u8 k3).wf = true ∧ (Lit.int .u8 k4).wf = true ∧ (Lit.int .u8 k5).wf = true ∧ (Lit.int .u8 k6).wf = true ∧ (Lit.int .u8 k7).wf = true ∧ (Lit.int .u8 k8).wf = true ∧ (Lit.int .u8 k9).wf = true ∧ (Lit.int .u8 k10).wf = true ∧ (Lit.int .u8 k11).wf = true ∧ (Lit.int .u8 k12).wf = true ∧ (Lit.int .u8 k13).wf = true ∧ (Lit.int .u8 k14).wf = true ∧ (Lit.int .u8 k15).wf = true := by
  have c22 : Try.prog.cellsOf 22 = 16 := by kernel_rfl
  have h5 : Try.prog.cellsOf 5 = 1 := by kernel_rfl
  simp only [Value.okWide, Try.underlying22] at hv
  obtain ⟨cs, rfl, hsz, _⟩ := hv
  rw [c22] at hsz
  obtain ⟨fuel, hf⟩ := h
  obtain ⟨xs, m, _, hx, _, hl, hi⟩ := DataW.trod_array Try.underlying22 hf
  obtain ⟨y0, y1, y2, y3, y4, y5, y6, y7, y8, y9, y10, y11, y12, y13, y14, y15, hxs⟩ := list16 xs hl
  obtain ⟨c0, c1, c2, c3, c4, c5, c6, c7, c8, c9, c10, c11, c12, c13, c14, c15, hcs⟩ := list16 cs.toList (by simpa using hsz)
  rw [h5] at hi
  subst hxs
  have hcs' : cs = #[c0, c1, c2, c3, c4, c5, c6, c7, c8, c9, c10, c11, c12, c13, c14, c15] := by
    apply Array.toList_inj.1; rw [hcs]
  subst hcs'
  obtain ⟨k0, e0, f0, w0⟩ := DataW.trod_int Try.underlying5 (hi 0 (by decide))
  obtain ⟨k1, e1, f1, w1⟩ := DataW.trod_int Try.underlying5 (hi 1 (by decide))
  obtain ⟨k2, e2, f2, w2⟩ := DataW.trod_int Try.underlying5 (hi 2 (by decide))
  obtain ⟨k3, e3, f3, w3⟩ := DataW.trod_int Try.underlying5 (hi 3 (by decide))
  obtain ⟨k4, e4, f4, w4⟩ := DataW.trod_int Try.underlying5 (hi 4 (by decide))
  obtain ⟨k5, e5, f5, w5⟩ := DataW.trod_int Try.underlying5 (hi 5 (by decide))
  obtain ⟨k6, e6, f6, w6⟩ := DataW.trod_int Try.underlying5 (hi 6 (by decide))
  obtain ⟨k7, e7, f7, w7⟩ := DataW.trod_int Try.underlying5 (hi 7 (by decide))
  obtain ⟨k8, e8, f8, w8⟩ := DataW.trod_int Try.underlying5 (hi 8 (by decide))
  obtain ⟨k9, e9, f9, w9⟩ := DataW.trod_int Try.underlying5 (hi 9 (by decide))
  obtain ⟨k10, e10, f10, w10⟩ := DataW.trod_int Try.underlying5 (hi 10 (by decide))
  obtain ⟨k11, e11, f11, w11⟩ := DataW.trod_int Try.underlying5 (hi 11 (by decide))
  obtain ⟨k12, e12, f12, w12⟩ := DataW.trod_int Try.underlying5 (hi 12 (by decide))
  obtain ⟨k13, e13, f13, w13⟩ := DataW.trod_int Try.underlying5 (hi 13 (by decide))
  obtain ⟨k14, e14, f14, w14⟩ := DataW.trod_int Try.underlying5 (hi 14 (by decide))
  obtain ⟨k15, e15, f15, w15⟩ := DataW.trod_int Try.underlying5 (hi 15 (by decide))
  simp [Value.cells] at e0 e1 e2 e3 e4 e5 e6 e7 e8 e9 e10 e11 e12 e13 e14 e15
  subst e0 e1 e2 e3 e4 e5 e6 e7 e8 e9 e10 e11 e12 e13 e14 e15 f0 f1 f2 f3 f4 f5 f6 f7 f8 f9 f10 f11 f12 f13 f14 f15
  simp only [Prod.mk.injEq] at hx
  exact ⟨k0, k1, k2, k3, k4, k5, k6, k7, k8, k9, k10, k11, k12, k13, k14, k15, rfl, by rw [hx.2]; rfl, w0, w1, w2, w3, w4, w5, w6, w7, w8, w9, w10, w11, w12, w13, w14, w15⟩

theorem bounds8 {n : Int} (h : (Lit.int .u8 n).wf = true) : 0 ≤ n ∧ n ≤ 255 := by
  simp [Lit.wf, IntKind.min, IntKind.max, IntKind.signed, IntKind.bits] at h; omega

end Go.Proofs.Qxb6613476a
