/- Contract: the laws' own copy of a slice of bytes: a new slice with the same bytes. -/
import Derived.Test.YtgjdlcnmfpbbhaaDoorRows
import Derived.Test.YtgjdlcnmfpbbhaaDoorOwn
namespace Go.Proofs.YtgjdlcnmfpbbhaaDoor
open Go.RowKit
set_option linter.unusedVariables false
theorem u8_make : (Tryd.prog.info? 5).map (fun i => (i.zero, i.size, i.bytes)) = some (some (.int .u8 0), 1, 1) := by kernel_rfl
theorem run_made (n : Nat) (hn : n ≤ 140737488355328) (W : World) :
    (Instr.makeSlice 22 (.int .i64 (n : Int)) (.int .i64 (n : Int))).run Tryd.prog W = .ok (.slice (some ⟨W.heap.size, 0, none⟩) n n) (W.alloc (.cells (madeCells (Value.int .u8 0).cells n) 5)) := by
  obtain ⟨i, hi, hz, hs, hb⟩ := info_parts u8_make
  have hr := run_make (P := Tryd.prog) W 22 5 i (.int .u8 0) Tryd.underlying22 hi hz .i64 .i64 n n (by omega) (by omega) (by rw [hb]; omega) (by omega)
  simp only [Int.toNat_natCast, hs, Nat.mul_one] at hr
  exact hr
theorem made_list (n : Nat) : (madeCells (Value.int .u8 0).cells n).toList = (List.replicate n (0 : Int)).map (Value.int .u8) := by
  simp only [madeCells, Value.cells, Array.toList_map, Array.toList_range, List.map_replicate]
  apply List.ext_getElem
  · simp
  · intro i h1 h2
    simp [Nat.mod_one]
theorem own_made (w : World) (n : Nat) (hn : n ≤ maxLen) : Own .u8 5 w.heap.size (w.alloc (.cells (madeCells (Value.int .u8 0).cells n) 5)) (some ⟨w.heap.size, 0, none⟩) n n (List.replicate n 0) := by
  refine Own.new .u8 _ _ w (Nat.le_refl _) (List.replicate n 0) _ n ?_ (by simp) (by simpa using hn)
  apply Array.ext'
  rw [made_list]
/-- A store into a row of the call's own. -/
theorem Own.set_ {k : IntKind} {t : TypeId} {B : Nat} {w : World} {g n cap : Nat} {zs : List Int} (h : Own k t B w (some ⟨g, 0, none⟩) n cap zs) (j : Nat) (z : Int) :
    Own k t B (w.setCell ⟨g, j, none⟩ (.int k z)) (some ⟨g, 0, none⟩) n cap (zs.set j z) ∧ w.grownBy (w.setCell ⟨g, j, none⟩ (.int k z)) (some g) := by
  obtain ⟨h1, h2⟩ := h.2.stored j (.int k z)
  refine ⟨⟨by rw [List.length_set]; exact h.1, ?_⟩, h2⟩
  rw [List.map_set]
  exact h1
theorem Own.free {k : IntKind} {t : TypeId} {B : Nat} {w : World} {g n cap : Nat} {zs : List Int} (h : Own k t B w (some ⟨g, 0, none⟩) n cap zs) (j : Nat) : w.frozen? ⟨g, j, none⟩ = false := by
  rcases h.2.2 with ⟨h1, _⟩ | ⟨q, c, cur, h1, _, h3, _⟩
  · cases h1
  · injection h1 with h1
    injection h1 with h1
    injection h1 with h1
    subst h1
    simp [World.frozen?, h3]
theorem put_snoc (l : List UInt8) (k : Nat) (hk : k < l.length) (u : Int) (hu : ((l.getD k 0).toNat : Int) = u) :
    (nums (l.take k) ++ List.replicate (l.length - k) (0 : Int)).set k u = nums (l.take (k + 1)) ++ List.replicate (l.length - (k + 1)) 0 := by
  have h1 : (nums (l.take k)).length = k := by rw [nums_length, List.length_take]; omega
  rw [List.set_append_right _ _ (by omega), h1, Nat.sub_self, show l.length - k = (l.length - (k + 1)) + 1 by omega, List.replicate_succ, List.set_cons_zero, List.take_succ_eq_append_getElem hk, nums_append, List.append_assoc]
  congr 1
  rw [← hu]
  simp [nums, List.getD, List.getElem?_eq_getElem hk]
set_option maxHeartbeats 1000000 in
theorem toBytes_any (A : Option Addr) (n c : Nat) (l : List UInt8) (w : World) (hl : By w A n l) (hn : n ≤ 140737488355328) : Calls Tryd.prog 31 #[.slice A n c] w (NewS .u8 5 (nums l) w) := by
  have LX := Lib.hid hl.len
  have hmk := run_made n hn
  have o0 := Lib.hid (own_made w n (by simp only [maxLen]; omega))
  obtain ⟨O, hO⟩ : ∃ O, Obj.cells (madeCells (Value.int .u8 0).cells n) 5 = O := ⟨_, rfl⟩
  rw [hO] at hmk o0
  clear hO
  go_enter Tryd.func31, Tryd.ntmps31
  go_wp2
  go_loopw [4] (fun i wr => ∃ k : Nat, k ≤ n ∧ i = .int .i64 k ∧ Own .u8 5 w.heap.size wr (some ⟨w.heap.size, 0, none⟩) n n (nums (l.take k) ++ List.replicate (n - k) 0) ∧ Nx w wr) (fun i _ => n - (intOf i).toNat)
  case atStart => exact ⟨0, Nat.zero_le _, rfl, o0.out, (Nx.refl _).alloc _⟩
  case round =>
    obtain ⟨k, hk, rfl, hown, hnx⟩ := hrel
    by_cases hlt : k < n
    · obtain ⟨b, off, u, rfl, hb, c1, hu0, hu1, hu⟩ := (hl.next hnx).at_ hlt
      obtain ⟨b', off', v, hA, hb', c2, _⟩ := hown.sl.at_ hlt
      have hab : w.heap.size = b' ∧ 0 = off' := by injection hA with hA; injection hA with h1 h2; exact ⟨h1, h2⟩
      obtain ⟨rfl, rfl⟩ := hab
      clear hA
      have hfz := hown.free k
      rw [Nat.zero_add] at c2
      obtain ⟨hset, hgr⟩ := hown.set_ k u
      have hx2 : Nx w (wr.setCell ⟨w.heap.size, k, none⟩ (.int .u8 u)) := hnx.setCell (Nat.le_refl _) _
      have HS : Hid ((nums (l.take k) ++ List.replicate (n - k) (0 : Int)).set k u = nums (l.take (k + 1)) ++ List.replicate (n - (k + 1)) 0) := by
        have := put_snoc l k (by rw [LX.out]; exact hlt) u hu.out
        rw [LX.out] at this
        exact this
      rw [HS.out] at hset
      clear hgr hown hmk
      go_wp2
      go_roundw
      case rel => exact ⟨k + 1, by omega, by go_num, hset, hx2⟩
      case measure => simp [intOf]; omega
    · obtain rfl : k = n := by omega
      have hfin : Own .u8 5 w.heap.size wr (some ⟨w.heap.size, 0, none⟩) k k (nums l) := by
        rw [Nat.sub_self, List.take_of_length_le (by rw [LX.out]; exact Nat.le_refl _)] at hown
        simpa using hown
      clear hmk
      go_wp2
      go_ret
      exact ⟨_, _, _, rfl, hfin, hnx⟩
end Go.Proofs.YtgjdlcnmfpbbhaaDoor
