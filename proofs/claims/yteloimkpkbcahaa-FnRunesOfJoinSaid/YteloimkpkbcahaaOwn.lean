/- Rows of a call's own: what they hold, how an append makes them longer, and how they are carried from world to world. -/
import Derived.Test.YteloimkpkbcahaaMem
import Derived.Maps.AppendAt
import Derived.OwnWalk
import Derived.RegionTactic
import Derived.Laws.IdiomStrings
import Derived.Laws.Cover4
namespace Go.Proofs.Yteloimkpkbcahaa
open Go.RowKit
set_option linter.unusedVariables false

/-- A slice whose array is the call's own (from block B on), nil let in: it holds the numbers zs. -/
def Own (k : IntKind) (t : TypeId) (B : Nat) (w : World) (A : Option Addr) (n cap : Nat) (zs : List Int) : Prop :=
  n = zs.length ∧ w.ownsRow B t 1 (.slice A n cap) n (zs.map (Value.int k))
def blk (A : Option Addr) : Option Nat := A.map (·.block)
theorem blk_own (A : Option Addr) (n cap : Nat) : (Value.slice A n cap).ownBlock = blk A := by cases A <;> rfl

section
variable {k : IntKind} {t : TypeId} {B : Nat} {w w' : World} {A : Option Addr} {n cap : Nat} {zs : List Int}
theorem Own.len (h : Own k t B w A n cap zs) : n = zs.length := h.1
theorem Own.cap_ (h : Own k t B w A n cap zs) : n ≤ cap ∧ cap ≤ maxLen := by
  rcases h.2.2 with ⟨h1, h2⟩ | ⟨g, c, cur, h1, _, _, h2, h3, _⟩
  · injection h1 with h1 h3 h4
    subst h4 h2
    exact ⟨Nat.le_refl _, by simp [maxLen]⟩
  · injection h1 with h1 h5 h4
    subst h4
    exact ⟨h2, h3⟩
theorem Own.lt (h : Own k t B w A n cap zs) {g : Nat} (hg : blk A = some g) : B ≤ g ∧ g < w.heap.size := h.2.lt g (by rw [blk_own]; exact hg)
theorem Own.sl (h : Own k t B w A n cap zs) : Sl k w A n zs := by
  refine ⟨h.1.symm, fun h0 => ?_⟩
  rcases h.2.2 with ⟨_, h2⟩ | ⟨g, c, cur, h1, _, hg, _⟩
  · omega
  · injection h1 with h1
    subst h1
    refine ⟨g, 0, rfl, (Array.getElem?_eq_some_iff.1 hg).1, fun j z hz => ?_⟩
    have := h.2.cells (g := g) rfl j (.int k z) (by simp [hz])
    rw [Nat.zero_add]
    rw [show (⟨g, 0, none⟩ : Addr).add j = ⟨g, j, none⟩ by unfold Addr.add; split <;> simp_all] at this
    exact this
theorem Own.kept {row : Option Nat} (h : Own k t B w A n cap zs) (hg : w.grownBy w' row) (hne : blk A = none ∨ blk A ≠ row) : Own k t B w' A n cap zs :=
  ⟨h.1, h.2.kept hg (by rw [blk_own]; exact hne)⟩
theorem Own.next (h : Own k t B w A n cap zs) (hn : Nx w w') : Own k t B w' A n cap zs :=
  h.kept (row := none) ⟨hn.out.os, hn.out.tape, hn.out.output, hn.out.size, fun i hi _ => hn.out.block i hi⟩ (by cases blk A <;> simp)
theorem Own.nil_ (k : IntKind) (t : TypeId) (B : Nat) (w : World) : Own k t B w none 0 0 [] := ⟨rfl, by simpa using World.ownsRow_nil w B t 1⟩
theorem Own.more {B' : Nat} (h : Own k t B w A n cap zs) (hB : B' ≤ B) : Own k t B' w A n cap zs := by
  refine ⟨h.1, h.2.1, ?_⟩
  rcases h.2.2 with h2 | ⟨g, c, cur, h1, h2, r⟩
  · exact .inl h2
  · exact .inr ⟨g, c, cur, h1, by omega, r⟩
/-- A new row, written out. -/
theorem Own.new (k : IntKind) (t : TypeId) (B : Nat) (w : World) (hB : B ≤ w.heap.size) (zs : List Int) (cs : Array Value) (n : Nat) (hc : cs = (zs.map (Value.int k)).toArray) (hl : n = zs.length) (hm : zs.length ≤ maxLen) :
    Own k t B (w.alloc (.cells cs t)) (some ⟨w.heap.size, 0, none⟩) n n zs := by
  subst hc hl
  refine ⟨rfl, by simp, .inr ⟨w.heap.size, _, _, rfl, hB, heap_alloc_new w _, Nat.le_refl _, hm, by simp, ?_⟩⟩
  simp
  rw [← List.length_map (f := Value.int k), List.take_length]
end

theorem Own.new_at (k : IntKind) (t : TypeId) (B : Nat) (w : World) (g : Nat) (hg : w.heap.size = g) (hB : B ≤ g) (zs : List Int) (cs : Array Value) (n : Nat) (hc : cs = (zs.map (Value.int k)).toArray) (hl : n = zs.length) (hm : zs.length ≤ maxLen) :
    Own k t B (w.alloc (.cells cs t)) (some ⟨g, 0, none⟩) n n zs := by
  subst hg
  exact Own.new k t B w hB zs cs n hc hl hm
/-- What a call gives that makes a slice: it holds zs, its array is new, and nothing that was there has changed. -/
def NewS (k : IntKind) (t : TypeId) (zs : List Int) (w : World) (e : Ending) (w' : World) : Prop :=
  ∃ A n cap, e = .returned (.slice A n cap) ∧ Own k t w.heap.size w' A n cap zs ∧ Nx w w'

section
variable {P : Program} (w : World)
theorem oneCell_ints (k : IntKind) (zs : List Int) : ∀ u ∈ zs.map (Value.int k), u.oneCell' = true := by
  intro u hu
  obtain ⟨z, _, rfl⟩ := List.mem_map.1 hu
  rfl

theorem run_append_sl {k : IntKind} (B : Nat) (t ty e : TypeId) (i : TypeInfo) (z : Value) (bytes : Nat) (ht : P.underlying t = some (.slice e)) (hi : P.info? e = some i) (hz : i.zero = some z)
    (hsize : i.size = 1) (hby : i.bytes = bytes) (hzs : z.cells.size = 1)
    (A : Option Addr) (n cap : Nat) (zs : List Int) (hown : Own k e B w A n cap zs)
    (A' : Option Addr) (m c : Nat) (ys : List Int) (hs : Sl k w A' m ys)
    (h63 : n + m ≤ maxLen) (hbytes : (n + m) * bytes ≤ 140737488355328) (hbase : B ≤ w.heap.size) :
    ∃ A2 n2 cap2 w', (Builtin.append_ #[t, t] ty #[.slice A n cap, .slice A' m c]).run P w = .ok (.slice A2 n2 cap2) w' ∧ Own k e B w' A2 n2 cap2 (zs ++ ys) ∧ w.grownBy w' (blk A) ∧
      (blk A2 = blk A ∨ blk A2 = some w.heap.size) := by
  have shape : ∀ {v' : Value} {w' : World} {n' : Nat} {xs : List Value}, w'.ownsRow B e 1 v' n' xs → ∃ A2 cap2, v' = .slice A2 n' cap2 := by
    intro v' w' n' xs h
    rcases h.2 with ⟨h1, h2⟩ | ⟨g, c, cur, h1, _⟩
    · subst h2; exact ⟨_, _, h1⟩
    · exact ⟨_, _, h1⟩
  rcases A' with _ | ad
  · have hm : m = 0 := by
      rcases Nat.eq_zero_or_pos m with h0 | h0
      · exact h0
      · obtain ⟨b, off, h, _⟩ := hs.2 h0
        cases h
    subst hm
    have hn : ys = [] := List.eq_nil_of_length_eq_zero hs.1
    subst hn
    refine ⟨A, n, cap, w, ?_, by simpa using hown, ⟨rfl, rfl, rfl, Nat.le_refl _, fun _ _ _ => rfl⟩, .inl rfl⟩
    rcases hown.2.2 with ⟨h1, h2⟩ | ⟨g, c', cur, h1, _, _, hnc, _⟩
    · rw [h1]
      simp [Builtin.append_, run_underlying ht, sizeOf, typeInfo, hi, Builtin.lenOf, Builtin.firstCells]
    · rw [h1]
      simp [Builtin.append_, run_underlying ht, sizeOf, typeInfo, hi, Builtin.lenOf, Builtin.firstCells, hnc, storeCells]
  · have hcells : ∀ j u, (ys.map (Value.int k))[j]? = some u → w.cell? (ad.add j) = some u := by
      intro j u hu
      rcases Nat.eq_zero_or_pos m with h0 | h0
      · subst h0
        have hn : ys = [] := List.eq_nil_of_length_eq_zero hs.1
        subst hn
        simp at hu
      · obtain ⟨b, off, h, _, hc⟩ := hs.2 h0
        injection h with h
        subst h
        rw [List.getElem?_map] at hu
        cases hy : ys[j]? with
        | none => rw [hy] at hu; cases hu
        | some y =>
          rw [hy] at hu
          simp only [Option.map_some, Option.some.injEq] at hu
          subst hu
          have := hc j y hy
          rw [show (⟨b, off, none⟩ : Addr).add j = ⟨b, off + j, none⟩ by unfold Addr.add; split <;> simp_all]
          exact this
    have hl : (ys.map (Value.int k)).length = m * 1 := by simp [hs.1]
    obtain ⟨v', w', hrun, h2, h3, _, h5⟩ := run_append_own_at (P := P) w B t ty e i z 1 bytes ht hi hz hsize hby hzs (by omega) (.slice A n cap) n _ hown.2 ad m c _ hl hcells (oneCell_ints k ys) h63 hbytes hbase
    obtain ⟨A2, cap2, rfl⟩ := shape h2
    rw [blk_own] at h3
    rw [blk_own, blk_own] at h5
    refine ⟨A2, n + m, cap2, w', hrun, ⟨?_, by simpa using h2⟩, h3, h5⟩
    rw [List.length_append, ← hown.1, hs.1]

theorem wp_append_sl {k : IntKind} {o : Oper} {a : Act} {K : Act → World → Prop} {Q : Exit → Act → World → Prop} (s x : Operand) (t : TypeId)
    (ho : o.op = .call { callee := .builtin .append, args := #[s, x], argTypes := #[t, t] })
    (B : Nat) (e : TypeId) (i : TypeInfo) (z : Value) (bytes : Nat) (ht : P.underlying t = some (.slice e)) (hi : P.info? e = some i) (hz : i.zero = some z)
    (hsize : i.size = 1) (hby : i.bytes = bytes) (hzs : z.cells.size = 1)
    (A : Option Addr) (n cap : Nat) (zs : List Int) (hs : a.eval s = .slice A n cap) (hown : Own k e B w A n cap zs)
    (A' : Option Addr) (m c : Nat) (ys : List Int) (hx : a.eval x = .slice A' m c) (hr : Sl k w A' m ys)
    (h63 : n + m ≤ maxLen) (hbytes : (n + m) * bytes ≤ 140737488355328) (hbase : B ≤ w.heap.size)
    (h : ∀ A2 n2 cap2 w', Own k e B w' A2 n2 cap2 (zs ++ ys) → w.grownBy w' (blk A) → (blk A2 = blk A ∨ blk A2 = some w.heap.size) → K (a.put o.dst (.slice A2 n2 cap2)) w') : o.wp P a w K Q := by
  obtain ⟨A2, n2, cap2, w', hrun, h2, h3, h4⟩ := run_append_sl (P := P) w B t o.type e i z bytes ht hi hz hsize hby hzs A n cap zs hown A' m c ys hr h63 hbytes hbase
  unfold Oper.wp execOp
  simp only [ho, resolve, invoke, builtin, Sem.run_bind, Sem.run_pure, Result.andThen_ok, List.map_toArray, List.map_cons, List.map_nil, hs, hx, hrun]
  exact h A2 n2 cap2 w' h2 h3 h4

theorem wpList_append_sl {k : IntKind} {ops : Array Oper} {rest : List Oper} {o : Oper} {a : Act} {Q : Exit → Act → World → Prop} (hgd : o.guard = none) (s x : Operand) (t : TypeId)
    (ho : o.op = .call { callee := .builtin .append, args := #[s, x], argTypes := #[t, t] })
    (B : Nat) (e : TypeId) (i : TypeInfo) (z : Value) (bytes : Nat) (ht : P.underlying t = some (.slice e)) (hi : P.info? e = some i) (hz : i.zero = some z)
    (hsize : i.size = 1) (hby : i.bytes = bytes) (hzs : z.cells.size = 1)
    (A : Option Addr) (n cap : Nat) (zs : List Int) (hs : a.eval s = .slice A n cap) (hown : Own k e B w A n cap zs)
    (A' : Option Addr) (m c : Nat) (ys : List Int) (hx : a.eval x = .slice A' m c) (hr : Sl k w A' m ys)
    (h63 : n + m ≤ maxLen) (hbytes : (n + m) * bytes ≤ 140737488355328) (hbase : B ≤ w.heap.size)
    (h : ∀ A2 n2 cap2 w', Own k e B w' A2 n2 cap2 (zs ++ ys) → w.grownBy w' (blk A) → (blk A2 = blk A ∨ blk A2 = some w.heap.size) → wpList P ops Q rest (a.put o.dst (.slice A2 n2 cap2)) w') : wpList P ops Q (o :: rest) a w :=
  wpList_plain hgd fun _ hK => wp_append_sl w s x t ho B e i z bytes ht hi hz hsize hby hzs A n cap zs hs hown A' m c ys hx hr h63 hbytes hbase fun A2 n2 cap2 w' h2 h3 h4 => hK _ _ (h A2 n2 cap2 w' h2 h3 h4)
end
/-- Behind an append onto a row of the call's own. -/
theorem Nx.app {a w w' : World} {k : IntKind} {t : TypeId} {A : Option Addr} {n cap : Nat} {zs : List Int} (h : Nx a w) (ho : Own k t a.heap.size w A n cap zs) (hg : w.grownBy w' (blk A)) : Nx a w' :=
  h.grown hg (fun _ hk => (ho.lt hk).1)

/-! ### Conversions between slices and strings -/
def strOf (l : List UInt8) : ByteArray := ⟨l.toArray⟩
theorem strOf_size (l : List UInt8) : (strOf l).size = l.length := by simp [strOf, ByteArray.size]
theorem strOf_list (s : ByteArray) : strOf s.data.toList = s := by cases s; simp [strOf]
theorem size_list (s : ByteArray) : s.data.toList.length = s.size := Array.length_toList
theorem strOf_data (l : List UInt8) : (strOf l).data.toList = l := by simp [strOf]
section
variable {P : Program}
theorem run_bytes_str (src dst e : TypeId) (hs : P.underlying src = some (.slice e)) (he : P.underlying e = some (.int .u8)) (hd : P.underlying dst = some .string)
    (w : World) (A : Option Addr) (n c : Nat) (l : List UInt8) (h : By w A n l) : (convert src dst (.slice A n c)).run P w = .ok (.string (strOf l)) w := by
  rcases A with _ | ad
  · have hn : n = 0 := by
      rcases Nat.eq_zero_or_pos n with h0 | h0
      · exact h0
      · obtain ⟨b, off, h, _⟩ := h.2 h0
        cases h
    subst hn
    have hl : l = [] := List.eq_nil_of_length_eq_zero h.len
    subst hl
    rw [run_convert_bytes_string w src dst e _ _ _ hs he hd]
    rfl
  · have hl := h.len
    subst hl
    refine run_convert_bytes_back w src dst e ad c l hs he hd ?_
    intro j hj
    obtain ⟨b, off, h1, _, hc⟩ := h.open_ (by omega)
    injection h1 with h1
    subst h1
    have := hc j hj
    rw [show (⟨b, off, none⟩ : Addr).add j = ⟨b, off + j, none⟩ by unfold Addr.add; split <;> simp_all]
    rw [this]
    simp [List.getD, List.getElem?_eq_getElem hj]
theorem run_runes_str (src dst e : TypeId) (hs : P.underlying src = some (.slice e)) (he : P.underlying e = some (.int .i32)) (hd : P.underlying dst = some .string)
    (w : World) (A : Option Addr) (n c : Nat) (zs : List Int) (h : Sl .i32 w A n zs) : (convert src dst (.slice A n c)).run P w = .ok (.string (runesBytes zs)) w := by
  rcases A with _ | ad
  · have hn : n = 0 := by
      rcases Nat.eq_zero_or_pos n with h0 | h0
      · exact h0
      · obtain ⟨b, off, h, _⟩ := h.2 h0
        cases h
    subst hn
    have hl : zs = [] := List.eq_nil_of_length_eq_zero h.len
    subst hl
    rw [run_convert_runes_nil w src dst e _ _ hs he hd]
    rfl
  · have hl := h.len
    have := run_convert_runes (P := P) w src dst e ad n c zs (by omega) hs he hd (fun j hj => ?_)
    · rwa [List.take_of_length_le (by omega)] at this
    · obtain ⟨b, off, h1, _, hc⟩ := h.open_ (by omega)
      injection h1 with h1
      subst h1
      rw [show (⟨b, off, none⟩ : Addr).add j = ⟨b, off + j, none⟩ by unfold Addr.add; split <;> simp_all]
      exact hc j (by omega)
end

/-! ### A string to bytes: a new row, with the model's own mark behind it -/
def bytesObj (e : TypeId) (s : ByteArray) (W : World) : Obj := .cells (bytesRow s (grownCap W s.size 0 e)) e ((bytesRow s (grownCap W s.size 0 e)).size, (bytesRow s (grownCap W s.size 0 e)).size + 1)
theorem run_str_bytes {P : Program} (src dst e : TypeId) (hs : P.underlying src = some .string) (hd : P.underlying dst = some (.slice e)) (he : P.underlying e = some (.int .u8)) (s : ByteArray) (W : World) :
    (convert src dst (.string s)).run P W = .ok (.slice (some ⟨W.heap.size, 0, none⟩) s.size (grownCap W s.size 0 e)) ((W.alloc (bytesObj e s W)).drew) :=
  run_bytes_of_string W src dst e s hs hd he
theorem by_str_bytes (e : TypeId) (s : ByteArray) (W : World) : By ((W.alloc (bytesObj e s W)).drew) (some ⟨W.heap.size, 0, none⟩) s.size s.data.toList := by
  refine Sl.mk_ (by rw [nums_length, size_list]) (fun _ => by show W.heap.size < (W.heap.push _).size; simp) (fun j z hz => ?_)
  show (W.alloc (bytesObj e s W)).cell? ⟨W.heap.size, 0 + j, none⟩ = _
  rw [Nat.zero_add]
  unfold bytesObj
  rw [World.cell?_alloc_mark]
  unfold nums at hz
  rw [List.getElem?_map] at hz
  have hj : j < s.data.size := by
    cases h : s.data.toList[j]? with
    | none => rw [h] at hz; cases hz
    | some b =>
      have := (List.getElem?_eq_some_iff.1 h).1
      simpa using this
  rw [bytesRow_at s _ j hj]
  rw [show s.data.toList[j]? = some s.data[j] by simp] at hz
  simp only [Option.map_some, Option.some.injEq] at hz
  rw [hz]
theorem nx_str_bytes (e : TypeId) (s : ByteArray) (W : World) : Nx W ((W.alloc (bytesObj e s W)).drew) := ((Nx.refl W).alloc _).drew
/-- Two rows in two blocks. -/
def Apart (A B : Option Addr) : Prop := ∃ g h, blk A = some g ∧ blk B = some h ∧ g ≠ h
theorem Apart.symm {A B : Option Addr} (h : Apart A B) : Apart B A := by obtain ⟨g, k, h1, h2, h3⟩ := h; exact ⟨k, g, h2, h1, h3.symm⟩
theorem Apart.ne {A B : Option Addr} (h : Apart A B) : blk B = none ∨ blk B ≠ blk A := by
  obtain ⟨g, k, h1, h2, h3⟩ := h
  rw [h1, h2]
  exact Or.inr (by simpa using h3.symm)
theorem Apart.app {A B A2 : Option Addr} {w : World} (h : Apart A B) (hat : blk A2 = blk A ∨ blk A2 = some w.heap.size) (hB : ∀ g, blk B = some g → g < w.heap.size) : Apart A2 B := by
  obtain ⟨g, k, h1, h2, h3⟩ := h
  rcases hat with e | e
  · exact ⟨g, k, e.trans h1, h2, h3⟩
  · exact ⟨_, k, e, h2, fun he => by have := hB k h2; omega⟩
theorem one_sl (k : IntKind) (t : TypeId) (w : World) (z : Int) : Sl k (w.alloc (.cells #[.int k z] t)) (some ⟨w.heap.size, 0, none⟩) 1 [z] :=
  (Own.new k t w.heap.size w (Nat.le_refl _) [z] _ 1 rfl rfl (by simp [maxLen])).sl
theorem kept_alloc {k : IntKind} {t : TypeId} {B : Nat} {w : World} {A : Option Addr} {n cap : Nat} {zs : List Int} (h : Own k t B w A n cap zs) (o : Obj) : Own k t B (w.alloc o) A n cap zs := h.next ((Nx.refl _).alloc o)
theorem Apart.lit {g h : Nat} (hne : g ≠ h) : Apart (some ⟨g, 0, none⟩) (some ⟨h, 0, none⟩) := ⟨g, h, rfl, rfl, hne⟩
end Go.Proofs.Yteloimkpkbcahaa
