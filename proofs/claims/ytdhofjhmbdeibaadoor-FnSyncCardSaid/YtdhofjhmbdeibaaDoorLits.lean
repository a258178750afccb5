/- Words for slices that are written out: their cells, read as bytes. -/
import Derived.Test.YtdhofjhmbdeibaaDoorOwn
namespace Go.Proofs.YtdhofjhmbdeibaaDoor
open Go.RowKit
set_option linter.unusedVariables false
def bytesOf (zs : List Int) : List UInt8 := zs.map fun z => UInt8.ofNat z.toNat
theorem bytesOf_len (zs : List Int) : (bytesOf zs).length = zs.length := by simp [bytesOf]
theorem nums_bytesOf {zs : List Int} (h : ∀ z ∈ zs, 0 ≤ z ∧ z ≤ 255) : nums (bytesOf zs) = zs := by
  unfold nums bytesOf
  rw [List.map_map]
  have hh : ∀ z ∈ zs, ((fun b : UInt8 => (b.toNat : Int)) ∘ fun z : Int => UInt8.ofNat z.toNat) z = id z := by
    intro z hz
    have := h z hz
    simp [Function.comp]
    omega
  rw [List.map_congr_left hh, List.map_id]
theorem lit_by (t : TypeId) (w : World) (zs : List Int) (cs : Array Value) (n : Nat) (hz : ∀ z ∈ zs, 0 ≤ z ∧ z ≤ 255) (hc : cs = (zs.map (Value.int .u8)).toArray) (hn : n = zs.length) (hm : zs.length ≤ 4096) :
    By (w.alloc (.cells cs t)) (some ⟨w.heap.size, 0, none⟩) n (bytesOf zs) := by
  have := (Own.new .u8 t w.heap.size w (Nat.le_refl _) zs cs n hc hn (by simp only [maxLen]; omega)).sl
  unfold By
  rw [nums_bytesOf hz]
  exact this
end Go.Proofs.YtdhofjhmbdeibaaDoor
