/- unicode/utf8's two tables: what the rows' list gives, how it is carried from world to world, and a world for the witness. -/
import Derived.Test.YtcgpnmlemjldaaaDoorFrame
import Derived.Test.YtcgpnmlemjldaaaDoorCards
import Derived.Test.YtcgpnmlemjldaaaDoorTie
import Derived.Deep.DeepHandedRow
import Derived.Lib.LaidTab
import Derived.Lib.LaidU8
namespace Go.Proofs.YtcgpnmlemjldaaaDoor
open Go.RowKit Go.Lib
set_option linter.unusedVariables false
def Tabs (w : World) : Prop := Lib.Utf8Tabs 0 1 w
theorem Tabs.next {w w' : World} (h : Tabs w) (hn : Nx w w') : Tabs w' := by
  refine ⟨fun c hc => ?_, fun i hi => ⟨?_, ?_⟩⟩
  · have h1 := h.1 c hc
    rw [hn.cell (p := ⟨0, c, none⟩) (by have := World.block_lt_of_cell? w _ h1; exact this)]
    exact h1
  · have h1 := (h.2 i hi).1
    rw [hn.cell (p := ⟨1, 2 * i, none⟩) (by have := World.block_lt_of_cell? w _ h1; exact this)]
    exact h1
  · have h1 := (h.2 i hi).2
    rw [hn.cell (p := ⟨1, 2 * i + 1, none⟩) (by have := World.block_lt_of_cell? w _ h1; exact this)]
    exact h1
theorem first_eq : Rows.laid_unicode_utf8_first = Lib.firstData := by kernel_rfl
theorem accept_eq : (Rows.laid_unicode_utf8_acceptRanges : DataW Unit) = Lib.acceptData := by kernel_rfl
theorem tabs {W : World} (h : laidMetH Tryd.prog [("unicode/utf8.acceptRanges", Rows.laid_unicode_utf8_acceptRanges), ("unicode/utf8.first", Rows.laid_unicode_utf8_first)] W) : Tabs W := by
  have h' : laidMet Tryd.prog [("unicode/utf8.acceptRanges", Rows.laid_unicode_utf8_acceptRanges), ("unicode/utf8.first", Rows.laid_unicode_utf8_first)] W := h
  have h4 := laidMet.reads h' (n := "unicode/utf8.acceptRanges") (d := Rows.laid_unicode_utf8_acceptRanges) (by simp)
  have h3 := laidMet.reads h' (n := "unicode/utf8.first") (d := Rows.laid_unicode_utf8_first) (by simp)
  rw [first_eq] at h3
  rw [accept_eq] at h4
  refine ⟨fun c hc => ?_, fun i hi => ?_⟩
  · obtain ⟨g, t, cs, fuel, p, hg, hty, hvar, hd⟩ := h3
    obtain rfl := Option.some.inj ((show Tryd.prog.globalNamed "unicode/utf8.first" = some 0 by kernel_rfl).symm.trans hg)
    obtain rfl := Option.some.inj ((show (Tryd.prog.globals[0]?).map (·.type) = some 57 by kernel_rfl).symm.trans hty)
    have hcs := cells_of_tab Tryd.underlying57 Tryd.underlying5 (by kernel_rfl) (by kernel_rfl) hd
    have := World.var?_cell hg hvar c
    rw [this, ← Array.getElem?_toList, hcs]
    simp [firstTab, hc]
  · obtain ⟨g, t, cs, fuel, p, hg, hty, hvar, hd⟩ := h4
    obtain rfl := Option.some.inj ((show Tryd.prog.globalNamed "unicode/utf8.acceptRanges" = some 1 by kernel_rfl).symm.trans hg)
    obtain rfl := Option.some.inj ((show (Tryd.prog.globals[1]?).map (·.type) = some 60 by kernel_rfl).symm.trans hty)
    obtain ⟨fuel', d, q, hdi, he⟩ := array_elem Tryd.underlying60 hd i hi
    simp only [List.getElem?_map, List.getElem?_range hi, Option.map_some, Option.some.injEq] at hdi
    subst hdi
    have c138 : Tryd.prog.cellsOf 59 = 2 := by kernel_rfl
    have c5 : Tryd.prog.cellsOf 5 = 1 := by kernel_rfl
    rw [c138] at he
    have hcs := ints_of_struct (k := .u8) Tryd.underlying59 (fun j f hj => by
      match j, hj with
      | 0, hj => simp at hj; subst hj; exact ⟨Tryd.underlying5, rfl, c5⟩
      | 1, hj => simp at hj; subst hj; exact ⟨Tryd.underlying5, rfl, c5⟩
      | j + 2, hj => simp at hj) (by rw [c138]; rfl) he
    have e0 := congrArg (·[0]?) hcs
    have e1 := congrArg (·[1]?) hcs
    simp only [List.getElem?_take, List.getElem?_drop] at e0 e1
    constructor
    · rw [World.var?_cell hg hvar (2 * i), ← Array.getElem?_toList]
      simpa [Nat.mul_comm] using e0
    · rw [World.var?_cell hg hvar (2 * i + 1), ← Array.getElem?_toList]
      simpa [Nat.mul_comm] using e1
def relaid (cs : Array Value) : Obj → Obj
  | .cells _ t frozen => .cells cs t frozen
  | o => o
/-- A world for the witness: the settled one, the two tables holding what their initialisers lay. -/
noncomputable def laidWorld (os : Os) : World :=
  { World.holding Tryd.prog os ⟨#[], #[], []⟩ with heap := ((World.holding Tryd.prog os ⟨#[], #[], []⟩).heap.modify 0 (relaid (Lib.firstTab.map (Value.int .u8)).toArray)).modify 1 (relaid (((List.range 16).map fun i => [Value.int .u8 (accLo i), Value.int .u8 (accHi i)]).flatten).toArray) }
end Go.Proofs.YtcgpnmlemjldaaaDoor
