/- An argument that is an array of four bytes, opened. -/
import Derived.Test.YtmngajddmgigaaaFrame
import Derived.Laws.IdiomArrays
namespace Go.Proofs.Ytmngajddmgigaaa
open Go.ChangeShapes Go.WideShapes Go.ChangeAt Go.RowKit
set_option linter.unusedVariables false
def Byte4 (x0 x1 x2 x3 : Int) : Prop := (0 ≤ x0 ∧ x0 ≤ 255) ∧ (0 ≤ x1 ∧ x1 ≤ 255) ∧ (0 ≤ x2 ∧ x2 ≤ 255) ∧ (0 ≤ x3 ∧ x3 ≤ 255)
def quad (x0 x1 x2 x3 : Int) : List UInt8 := [UInt8.ofNat x0.toNat, UInt8.ofNat x1.toNat, UInt8.ofNat x2.toNat, UInt8.ofNat x3.toNat]
theorem quad_nums {x0 x1 x2 x3 : Int} (h : Byte4 x0 x1 x2 x3) : nums (quad x0 x1 x2 x3) = [x0, x1, x2, x3] := by
  obtain ⟨h0, h1, h2, h3⟩ := h
  simp [nums, quad]
  omega
theorem quad_len (x0 x1 x2 x3 : Int) : (quad x0 x1 x2 x3).length = 4 := rfl
theorem open_arr4 {H : Type} {enc : TypeId × Value → H} {P : Program} {W : World} {r : Reach} {base : Nat} {t e : TypeId} {v : Value} {d : DataW H} {p : List MemPlace} (ht : P.underlying t = some (.array 4 e)) (he : P.underlying e = some (.int .u8)) (hc : P.cellsOf e = 1) (hs : P.cellsOf t = 4)
    (hv : Value.okWide P W r base t v) (h : DataW.Trod enc P W 0 (fun _ => true) true t v d p) :
    ∃ x0 x1 x2 x3, v = .agg #[.int .u8 x0, .int .u8 x1, .int .u8 x2, .int .u8 x3] ∧ Byte4 x0 x1 x2 x3 := by
  simp only [Value.okWide, ht] at hv
  obtain ⟨cs, rfl, h2, _⟩ := hv
  rw [hs] at h2
  obtain ⟨l⟩ := cs
  match l, h2 with
  | [c0, c1, c2, c3], _ =>
    obtain ⟨fuel, hf⟩ := h
    obtain ⟨y0, y1, y2, y3, n, _, k0, k1, k2, k3⟩ := trod_array4 ht hc hf
    obtain ⟨x0, e0, _, w0⟩ := DataW.trod_int he k0
    obtain ⟨x1, e1, _, w1⟩ := DataW.trod_int he k1
    obtain ⟨x2, e2, _, w2⟩ := DataW.trod_int he k2
    obtain ⟨x3, e3, _, w3⟩ := DataW.trod_int he k3
    simp only [List.cons.injEq, and_true] at e0 e1 e2 e3
    subst e0 e1 e2 e3
    have b : ∀ z : Int, (Lit.int .u8 z).wf = true → 0 ≤ z ∧ z ≤ 255 := fun z hz => by simpa [Lit.wf, IntKind.min, IntKind.max, IntKind.signed, IntKind.bits] using hz
    exact ⟨x0, x1, x2, x3, rfl, b _ w0, b _ w1, b _ w2, b _ w3⟩
end Go.Proofs.Ytmngajddmgigaaa
