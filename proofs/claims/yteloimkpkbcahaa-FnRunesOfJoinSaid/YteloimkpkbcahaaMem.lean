/- Words for memory: what a call leaves as it was, a slice that reads as a list of numbers (nil let in), and how both are carried from world to world. -/
import Derived.WalkKit
import Derived.WalkSpells
import Derived.WalkLawsBesides
import Derived.Deep.Draws
import Derived.Lib.Hide
namespace Go.Proofs.Yteloimkpkbcahaa
open Go.RowKit
set_option linter.unusedVariables false

/-- Nothing that was there has changed. -/
def Nx (w w' : World) : Prop := Below w.heap.size w w'
theorem Nx.refl (w : World) : Nx w w := Below.refl _ _
theorem Nx.out {w w' : World} (h : Nx w w') : Below w.heap.size w w' := h
theorem Nx.size {w w' : World} (h : Nx w w') : w.heap.size ≤ w'.heap.size := Below.size h
theorem Nx.trans {a b c : World} (h : Nx a b) (k : Nx b c) : Nx a c := Below.trans h (Below.mono k h.size)
theorem Nx.drew {a b : World} (h : Nx a b) : Nx a b.drew := Below.drew h
theorem Nx.drewN {a b : World} (h : Nx a b) (n : Nat) : Nx a (b.drewN n) := Below.trans h ⟨rfl, rfl, rfl, Nat.le_refl _, fun _ _ => rfl⟩
theorem Nx.alloc {a b : World} (h : Nx a b) (o : Obj) : Nx a (b.alloc o) := Below.alloc h h.size o
theorem Nx.iter {a b : World} (h : Nx a b) (s : ByteArray) (p : Nat) : Nx a (b.iter s p) := h.alloc _
theorem Nx.setCell {a b : World} (h : Nx a b) {p : Addr} (hp : a.heap.size ≤ p.block) (u : Value) : Nx a (b.setCell p u) := Below.setCell h hp u
theorem Nx.grown {a b c : World} {row : Option Nat} (h : Nx a b) (hg : b.grownBy c row) (hr : ∀ k, row = some k → a.heap.size ≤ k) : Nx a c := Below.grown h hg h.size hr
theorem Nx.cell {w w' : World} (h : Nx w w') {p : Addr} (hp : p.block < w.heap.size) : w'.cell? p = w.cell? p := Below.cell h hp

/-- A slice whose elements are the numbers zs: nil, or at some address below the heap's end. -/
def Sl (k : IntKind) (w : World) (A : Option Addr) (n : Nat) (zs : List Int) : Prop :=
  zs.length = n ∧ (0 < n → ∃ b off, A = some ⟨b, off, none⟩ ∧ b < w.heap.size ∧ ∀ j z, zs[j]? = some z → w.cell? ⟨b, off + j, none⟩ = some (.int k z))

section
variable {k : IntKind} {w w' : World} {A : Option Addr} {n : Nat} {zs : List Int}
theorem Sl.len (h : Sl k w A n zs) : zs.length = n := h.1
theorem Sl.empty (k : IntKind) (w : World) (A : Option Addr) : Sl k w A 0 [] := ⟨rfl, fun h => absurd h (by omega)⟩
theorem Sl.next (h : Sl k w A n zs) (hn : Nx w w') : Sl k w' A n zs :=
  ⟨h.1, fun h0 => by
    obtain ⟨b, off, e, hb, hc⟩ := h.2 h0
    exact ⟨b, off, e, Nat.lt_of_lt_of_le hb hn.size, fun j z hz => (hn.cell (p := ⟨b, off + j, none⟩) hb).trans (hc j z hz)⟩⟩
/-- Where there is an element: the address, and every cell. -/
theorem Sl.open_ (h : Sl k w A n zs) (h0 : 0 < n) : ∃ b off, A = some ⟨b, off, none⟩ ∧ b < w.heap.size ∧ ∀ j, j < n → w.cell? ⟨b, off + j, none⟩ = some (.int k (zs.getD j 0)) := by
  obtain ⟨b, off, e, hb, hc⟩ := h.2 h0
  refine ⟨b, off, e, hb, fun j hj => hc j _ ?_⟩
  have : j < zs.length := by rw [h.1]; exact hj
  simp [List.getD, List.getElem?_eq_getElem this]
theorem Sl.mk_ {b off : Nat} (hl : zs.length = n) (hb : 0 < n → b < w.heap.size) (hc : ∀ j z, zs[j]? = some z → w.cell? ⟨b, off + j, none⟩ = some (.int k z)) : Sl k w (some ⟨b, off, none⟩) n zs :=
  ⟨hl, fun h0 => ⟨b, off, rfl, hb h0, hc⟩⟩

/-- The address behind a cut: the model's own 'if'. -/
def cutA (A : Option Addr) (cap i : Nat) : Option Addr := if cap = i then A else A.map (·.add i)
theorem Sl.cut (h : Sl k w A n zs) {i j cap : Nat} (hi : i ≤ j) (hj : j ≤ n) (hc : n ≤ cap) : Sl k w (cutA A cap i) (j - i) ((zs.take j).drop i) := by
  have hl := h.1
  refine ⟨by simp; omega, fun h0 => ?_⟩
  obtain ⟨b, off, rfl, hb, hcell⟩ := h.2 (by omega)
  refine ⟨b, off + i, ?_, hb, fun q z hz => ?_⟩
  · unfold cutA
    rw [if_neg (by omega)]
    simp only [Option.map_some, Option.some.injEq]
    unfold Addr.add
    split
    · simp
    · simp
  · rw [List.getElem?_drop, List.getElem?_take] at hz
    split at hz
    · have := hcell (i + q) z hz
      rw [show off + i + q = off + (i + q) by omega]
      exact this
    · cases hz
theorem Sl.from_ (h : Sl k w A n zs) {i cap : Nat} (hi : i ≤ n) (hc : n ≤ cap) : Sl k w (cutA A cap i) (n - i) (zs.drop i) := by
  have := h.cut hi (Nat.le_refl n) hc
  rwa [List.take_of_length_le (by rw [h.1]; exact Nat.le_refl _)] at this
theorem cutA_zero (A : Option Addr) (cap : Nat) : cutA A cap 0 = A := by
  unfold cutA
  split
  · rfl
  · cases A <;> simp [Addr.add]
theorem Sl.upto (h : Sl k w A n zs) {j : Nat} (hj : j ≤ n) : Sl k w A j (zs.take j) := by
  have := h.cut (cap := n) (Nat.zero_le j) hj (Nat.le_refl _)
  rwa [cutA_zero, Nat.sub_zero, List.drop_zero] at this
end

/-- The bytes of a slice. -/
def nums (l : List UInt8) : List Int := l.map fun b => (b.toNat : Int)
def By (w : World) (A : Option Addr) (n : Nat) (l : List UInt8) : Prop := Sl .u8 w A n (nums l)
theorem nums_length (l : List UInt8) : (nums l).length = l.length := by simp [nums]
theorem nums_getD (l : List UInt8) (j : Nat) : (nums l).getD j 0 = ((l.getD j 0).toNat : Int) := by
  simp only [nums, List.getD, List.getElem?_map]
  cases l[j]? <;> simp
theorem nums_take (l : List UInt8) (j : Nat) : (nums l).take j = nums (l.take j) := by simp [nums]
theorem nums_drop (l : List UInt8) (j : Nat) : (nums l).drop j = nums (l.drop j) := by simp [nums]
theorem nums_append (a b : List UInt8) : nums (a ++ b) = nums a ++ nums b := by simp [nums]
section
variable {w w' : World} {A : Option Addr} {n : Nat} {l : List UInt8}
theorem By.len (h : By w A n l) : l.length = n := by have := h.1; rwa [nums_length] at this
theorem By.empty (w : World) (A : Option Addr) : By w A 0 [] := Sl.empty _ _ _
theorem By.next (h : By w A n l) (hn : Nx w w') : By w' A n l := Sl.next h hn
theorem By.open_ (h : By w A n l) (h0 : 0 < n) : ∃ b off, A = some ⟨b, off, none⟩ ∧ b < w.heap.size ∧ ∀ j, j < n → w.cell? ⟨b, off + j, none⟩ = some (.int .u8 ((l.getD j 0).toNat : Int)) := by
  obtain ⟨b, off, e, hb, hc⟩ := Sl.open_ h h0
  exact ⟨b, off, e, hb, fun j hj => by rw [← nums_getD]; exact hc j hj⟩
theorem By.from_ (h : By w A n l) {i cap : Nat} (hi : i ≤ n) (hc : n ≤ cap) : By w (cutA A cap i) (n - i) (l.drop i) := by
  have := Sl.from_ h hi hc
  rwa [nums_drop] at this
theorem By.upto (h : By w A n l) {j : Nat} (hj : j ≤ n) : By w A j (l.take j) := by
  have := Sl.upto h hj
  rwa [nums_take] at this
theorem By.cut (h : By w A n l) {i j cap : Nat} (hi : i ≤ j) (hj : j ≤ n) (hc : n ≤ cap) : By w (cutA A cap i) (j - i) ((l.take j).drop i) := by
  have := Sl.cut h hi hj hc
  rwa [nums_take, nums_drop] at this
end

/-- What the walk's own cut is, under one name. -/
theorem run_cut {P : Program} (t e : TypeId) (ht : P.underlying t = some (.slice e)) (hz : ∀ w, (Go.sizeOf e).run P w = .ok 1 w) (A : Option Addr) (n cap : Nat) (k : IntKind) (i : Int) (m : Nat) (hm : i = (m : Int)) (h : m ≤ n) (w : World) :
    (Instr.slice t (.slice A n cap) (some (.int k i)) none none).run P w = .ok (.slice (cutA A cap m) (n - m) (cap - m)) w := by
  subst hm
  have he : P.elem t = e := by simp [Program.elem, ht]
  rw [run_slice_l w t A n cap (by rw [he]; exact ht) k (m : Int) (by omega) (by omega), he, hz]
  simp [sliced, cutA]
theorem run_cut2 {P : Program} (t e : TypeId) (ht : P.underlying t = some (.slice e)) (hz : ∀ w, (Go.sizeOf e).run P w = .ok 1 w) (A : Option Addr) (n cap : Nat) (k1 k2 : IntKind) (i j : Int) (m q : Nat) (hm : i = (m : Int)) (hq : j = (q : Int)) (h : m ≤ q) (h2 : q ≤ cap) (w : World) :
    (Instr.slice t (.slice A n cap) (some (.int k1 i)) (some (.int k2 j)) none).run P w = .ok (.slice (cutA A cap m) (q - m) (cap - m)) w := by
  subst hm hq
  have he : P.elem t = e := by simp [Program.elem, ht]
  rw [run_slice_lh w t A n cap (by rw [he]; exact ht) k1 k2 (m : Int) (q : Int) (by omega) (by omega) (by omega), he, hz]
  simp [sliced, cutA]
theorem run_upto {P : Program} (t e : TypeId) (ht : P.underlying t = some (.slice e)) (hz : ∀ w, (Go.sizeOf e).run P w = .ok 1 w) (A : Option Addr) (n cap : Nat) (k2 : IntKind) (j : Int) (q : Nat) (hq : j = (q : Int)) (h2 : q ≤ cap) (w : World) :
    (Instr.slice t (.slice A n cap) none (some (.int k2 j)) none).run P w = .ok (.slice A q cap) w := by
  subst hq
  have he : P.elem t = e := by simp [Program.elem, ht]
  rw [run_slice_h w t A n cap (by rw [he]; exact ht) k2 (q : Int) (by omega) (by omega), he, hz]
  simp only [Result.andThen, sliced, Int.toNat_natCast, Nat.sub_zero, Nat.zero_mul]
  have := cutA_zero A cap
  unfold cutA at this
  rw [this]

/-- One element, as a number of its own. -/
theorem Sl.at_ {kd : IntKind} {w : World} {A : Option Addr} {n : Nat} {zs : List Int} (h : Sl kd w A n zs) {k : Nat} (hk : k < n) :
    ∃ b off u, A = some ⟨b, off, none⟩ ∧ b < w.heap.size ∧ w.cell? ⟨b, off + k, none⟩ = some (.int kd u) ∧ Hid (zs.getD k 0 = u) := by
  obtain ⟨b, off, e, hb, hc⟩ := h.open_ (by omega)
  exact ⟨b, off, _, e, hb, hc k hk, rfl⟩
theorem By.at_ {w : World} {A : Option Addr} {n : Nat} {l : List UInt8} (h : By w A n l) {k : Nat} (hk : k < n) :
    ∃ b off u, A = some ⟨b, off, none⟩ ∧ b < w.heap.size ∧ w.cell? ⟨b, off + k, none⟩ = some (.int .u8 u) ∧ 0 ≤ u ∧ u < 256 ∧ Hid (((l.getD k 0).toNat : Int) = u) := by
  obtain ⟨b, off, e, hb, hc⟩ := h.open_ (by omega)
  have := (l.getD k 0).toNat_lt
  exact ⟨b, off, _, e, hb, hc k hk, by omega, by omega, rfl⟩

/-- Two lists are one: kept shut. -/
def eqB {α : Type} [DecidableEq α] (x y : List α) : Bool := decide (x = y)
theorem eqB_iff {α : Type} [DecidableEq α] {x y : List α} : eqB x y = true ↔ x = y := by simp [eqB]
theorem eqB_ne {α : Type} [DecidableEq α] {x y : List α} (h : x ≠ y) : eqB x y = false := by simp [eqB, h]
theorem eqB_refl {α : Type} [DecidableEq α] (x : List α) : eqB x x = true := by simp [eqB]
theorem take_step {α : Type} {x y : List α} {k : Nat} (d : α) (hx : k < x.length) (hy : k < y.length) (h : x.take k = y.take k) (e : x.getD k d = y.getD k d) : x.take (k + 1) = y.take (k + 1) := by
  rw [List.take_succ_eq_append_getElem hx, List.take_succ_eq_append_getElem hy, h]
  simp only [List.getD, List.getElem?_eq_getElem hx, List.getElem?_eq_getElem hy, Option.getD_some] at e
  rw [e]
theorem nums_inj {x y : List UInt8} (h : nums x = nums y) : x = y := by
  have : Function.Injective (fun b : UInt8 => (b.toNat : Int)) := by
    intro a b hab
    simp only at hab
    exact UInt8.toNat_inj.1 (by omega)
  exact (List.map_inj_right (by intro a b hab; exact this hab)).1 h

theorem ret_bool {a b : Bool} (h : a = b) : Ending.returned (.bool a) = .returned (.bool b) := by rw [h]
theorem ret_int {k : IntKind} {a b : Int} (h : a = b) : Ending.returned (.int k a) = .returned (.int k b) := by rw [h]
theorem ret_string {a b : ByteArray} (h : a = b) : Ending.returned (.string a) = .returned (.string b) := by rw [h]
theorem ret_two {x x' y y' : Value} (h : x = x') (k : y = y') : Ending.returned (.tuple #[x, y]) = .returned (.tuple #[x', y']) := by rw [h, k]
theorem val_int {k : IntKind} {a b : Int} (h : a = b) : Value.int k a = .int k b := by rw [h]
theorem val_bool {a b : Bool} (h : a = b) : Value.bool a = .bool b := by rw [h]
/-- A contract, told from an earlier world on. -/
theorem nx_mono {P : Program} {f : FuncId} {args : Array Value} {w W : World} {E : Ending} (h : Nx w W) (hc : Calls P f args W fun e w' => e = E ∧ Nx W w') : Calls P f args W fun e w' => e = E ∧ Nx w w' :=
  hc.mono fun _ _ ⟨he, hx⟩ => ⟨he, h.trans hx⟩
end Go.Proofs.Yteloimkpkbcahaa
