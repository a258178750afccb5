/- Words for the rows' frames: an argument that is a slice of bytes or of runes, read as a list, with its bound. -/
import Derived.Test.YteloimkpkbcahaaRows
import Derived.Test.YteloimkpkbcahaaOwn
import Derived.ProofKit
import Derived.OpenShut
import Derived.ShutString
import Derived.ChangeOld
import Derived.SizedLaws
import Derived.JoinedCond
import Derived.Deep.CondSized
namespace Go.Proofs.Yteloimkpkbcahaa
open Go.ChangeShapes Go.WideShapes Go.ChangeAt Go.RowKit
set_option linter.unusedVariables false
theorem own : ownKnob Try.prog.godebug = none := by kernel_rfl
theorem laidOut : laidOutB Try.prog = true := by kernel_rfl
theorem reach_is : reachBytes = 140737488351232 := by decide

section
variable {H : Type} {enc : TypeId × Value → H} {P : Program}
/-- How long a slice's datum is. -/
def Held (d : DataW H) (c : Nat) : Prop := (d = .nil ∧ c = 0) ∨ ∃ elems spare, d = .slice elems spare ∧ elems.length + spare.length = c
theorem open_sl {W : World} {k : IntKind} {r : Reach} {base : Nat} {t e : TypeId} {v : Value} {d : DataW H} {p : List MemPlace} (ht : P.underlying t = some (.slice e)) (he : P.underlying e = some (.int k)) (hc : P.cellsOf e = 1)
    (hv : Value.okWide P W r base t v) (h : DataW.Trod enc P W 0 (fun _ => true) true t v d p) :
    ∃ A n c zs, v = .slice A n c ∧ Sl k W A n zs ∧ n ≤ c ∧ c ≤ maxLen ∧ (∀ z ∈ zs, (Lit.int k z).wf = true) ∧ Held d c := by
  obtain ⟨A, n, c, rfl⟩ := okWide_slice ht hv
  obtain ⟨fuel, hf⟩ := h
  rcases open_ints ht he hc hf with ⟨hcs, hx⟩ | ⟨x, l, c', zs, hcs, _, hl, hm, hz, hx, hcell, hwz⟩
  · simp [Value.cells] at hcs
    obtain ⟨rfl, rfl, rfl⟩ := hcs
    refine ⟨_, _, _, [], rfl, Sl.empty _ _ _, Nat.le_refl _, by simp [maxLen], by simp, .inl ⟨?_, rfl⟩⟩
    exact congrArg Prod.fst hx
  · simp [Value.cells] at hcs
    obtain ⟨rfl, rfl, rfl⟩ := hcs
    simp only [if_true] at hz
    refine ⟨_, _, _, zs.take n, rfl, ⟨by simp; omega, fun h0 => ?_⟩, hl, hm, fun z hz => hwz z (List.mem_of_mem_take hz), .inr ⟨_, _, congrArg Prod.fst hx, by simp [lits]; omega⟩⟩
    obtain ⟨b, off, spot⟩ := x
    have hc0 := hcell 0 (by omega)
    have hspot : spot = none := by simpa [Addr.add] using World.cell?_spot hc0
    subst hspot
    refine ⟨b, off, rfl, ?_, fun j z hj => ?_⟩
    · have := World.block_lt_of_cell? W _ hc0
      simpa [Addr.add] using this
    · rw [List.getElem?_take] at hj
      split at hj
      · have hjz : j < zs.length := by omega
        have := hcell j hjz
        rw [show (⟨b, off, none⟩ : Addr).add j = ⟨b, off + j, none⟩ by unfold Addr.add; split <;> simp_all] at this
        rw [this]
        simp [List.getElem?_eq_getElem hjz] at hj
        simp [List.getD, List.getElem?_eq_getElem hjz, hj]
      · cases hj
theorem open_by {W : World} {r : Reach} {base : Nat} {t e : TypeId} {v : Value} {d : DataW H} {p : List MemPlace} (ht : P.underlying t = some (.slice e)) (he : P.underlying e = some (.int .u8)) (hc : P.cellsOf e = 1)
    (hv : Value.okWide P W r base t v) (h : DataW.Trod enc P W 0 (fun _ => true) true t v d p) :
    ∃ A n c l, v = .slice A n c ∧ By W A n l ∧ n ≤ c ∧ c ≤ maxLen ∧ Held d c := by
  obtain ⟨A, n, c, zs, hv, hs, hn, hm, hw, hd⟩ := open_sl ht he hc hv h
  refine ⟨A, n, c, zs.map (fun z => UInt8.ofNat z.toNat), hv, ?_, hn, hm, hd⟩
  have : nums (zs.map (fun z => UInt8.ofNat z.toNat)) = zs := by
    unfold nums
    rw [List.map_map]
    have hh : ∀ z ∈ zs, ((fun b : UInt8 => (b.toNat : Int)) ∘ fun z : Int => UInt8.ofNat z.toNat) z = id z := by
      intro z hz
      have hb := hw z hz
      simp [Lit.wf, IntKind.min, IntKind.max, IntKind.signed, IntKind.bits] at hb
      simp [Function.comp]
      omega
    rw [List.map_congr_left hh, List.map_id]
  unfold By
  rw [this]
  exact hs
theorem held_size {ts : List TypeId} {ds : List (DataW H)} (h : (DataW.weightsEach P ts ds).all (· ≤ reachBytes) = true) {j : Nat} {t e : TypeId} {d : DataW H} {c b : Nat} (hb : P.bytesOf e = b) (ht : ts[j]? = some t) (hd : ds[j]? = some d) (hu : P.underlying t = some (.slice e)) (hh : Held d c) :
    c * b ≤ 140737488351232 := by
  rcases hh with ⟨_, rfl⟩ | ⟨el, sp, rfl, rfl⟩
  · omega
  · have := sized_slice h ht hd hu
    rw [hb, reach_is] at this
    exact this
theorem str_size {ts : List TypeId} {ds : List (DataW H)} (h : (DataW.weightsEach P ts ds).all (· ≤ reachBytes) = true) {j : Nat} {t : TypeId} {s : ByteArray} (ht : ts[j]? = some t) (hd : ds[j]? = some (.lit (.string s.data.toList))) : s.size ≤ 140737488351232 := by
  have := sized_string h ht hd
  rw [size_list, reach_is] at this
  exact this
end
/-! ### The second form's bound -/
theorem bulk_one {H : Type} (d : DataW H) : 1 ≤ Rows.uptoBulk d := by
  cases d with
  | lit l => cases l <;> simp [Rows.uptoBulk]
  | nil => simp [Rows.uptoBulk]
  | ptr d => simp [Rows.uptoBulk]
  | slice elems spare => simp [Rows.uptoBulk]
  | agg parts => simp [Rows.uptoBulk]
  | iface t d => simp [Rows.uptoBulk]
  | map entries => simp [Rows.uptoBulk]
  | held h => simp [Rows.uptoBulk]
theorem bulk_len {H : Type} (l : List (DataW H)) : l.length ≤ Rows.uptoBulkAll l := by
  induction l with
  | nil => simp [Rows.uptoBulkAll]
  | cons x r ih => have := bulk_one x; simp only [Rows.uptoBulkAll, List.length_cons]; omega
theorem bulk_held {H : Type} {d : DataW H} {c : Nat} (h : Held d c) : c ≤ Rows.uptoBulk d := by
  rcases h with ⟨rfl, rfl⟩ | ⟨el, sp, rfl, rfl⟩
  · omega
  · have h1 := bulk_len el
    have h2 := bulk_len sp
    simp only [Rows.uptoBulk]
    omega
theorem bulk_str {H : Type} (s : ByteArray) : s.size ≤ Rows.uptoBulk (DataW.lit (H := H) (.string s.data.toList)) := by
  simp only [Rows.uptoBulk]
  rw [size_list]
  omega
theorem bulk_bound {H : Type} {l : List (DataW H)} (hk : Rows.uptoSmall H l = true) : Rows.uptoBulkAll l ≤ 1048576 := of_decide_eq_true hk
end Go.Proofs.Yteloimkpkbcahaa
