/- Contracts: AppendRune, by unicode/utf8 onto a row of the call's own, and through impl onto a copy: the encoding stands behind the bytes. -/
import Derived.Test.YtcgpnmlemjldaaaDoorRows
import Derived.Test.YtcgpnmlemjldaaaDoorShelf
import Derived.Test.YtcgpnmlemjldaaaDoorPlain
import Derived.Test.YtcgpnmlemjldaaaDoorOwn
import Derived.Deep.DeepMust
namespace Go.Proofs.YtcgpnmlemjldaaaDoor
open Go.RowKit Go.Lib
set_option linter.unusedVariables false
theorem nums_encode (r : Int) : nums (encodeRune r) = encodeRuneZ r := by
  unfold nums encodeRune
  rw [List.map_map]
  have : ∀ x ∈ encodeRuneZ r, ((fun b : UInt8 => (b.toNat : Int)) ∘ fun x : Int => x.toNat.toUInt8) x = id x := by
    intro x hx
    obtain ⟨h0, h1⟩ := encodeRuneZ_byte r x hx
    simp [Function.comp]
    omega
  rw [List.map_congr_left this, List.map_id]
theorem cells_encode (r : Int) : runeCells r = (nums (encodeRune r)).map (Value.int .u8) := by rw [nums_encode]; rfl
theorem u8_row : (Tryd.prog.info? 5).map (fun i => (i.zero, i.size, i.bytes)) = some (some (.int .u8 0), 1, 1) := by kernel_rfl
/-- What AppendRune gives: the row with the encoding behind it. -/
def AppS (B : Nat) (A : Option Addr) (zs : List Int) (w : World) (e : Ending) (w' : World) : Prop :=
  ∃ A' n' c', e = .returned (.slice A' n' c') ∧ Own .u8 5 B w' A' n' c' zs ∧ ∃ o, (w.alloc o).grownBy w' (blk A)
theorem utf8_append (B : Nat) (A : Option Addr) (n c : Nat) (zs : List Int) (r : Int) (w : World) (ho : Own .u8 5 B w A n c zs) (hr0 : -2147483648 ≤ r) (hr1 : r ≤ 2147483647) (hn : n + 4 ≤ 140737488355328) (hB : B ≤ w.heap.size) :
    Calls Tryd.prog 38 #[.slice A n c, .int .i32 r] w (AppS B A (zs ++ nums (encodeRune r)) w) := by
  have h : Calls Tryd.prog 38 #[.slice A n c, .int .i32 r] w fun e w' => ∃ v', e = .returned v' ∧ w'.ownsRow B 5 1 v' (n + (Lib.runeCells r).length) (zs.map (Value.int .u8) ++ Lib.runeCells r) ∧ ∃ o, (w.alloc o).grownBy w' (Value.slice A n c).ownBlock :=
    Any.utf8_AppendRune_plain Tryd.lays242 u8_row B (.slice A n c) n _ r hr0 hr1 w ho.2 hn hB
  refine h.mono ?_
  rintro e w' ⟨v', rfl, hown, o, hg⟩
  have shape : ∃ A2 cap2, v' = .slice A2 (n + (Lib.runeCells r).length) cap2 := by
    rcases hown.2 with ⟨h1, h2⟩ | ⟨g, c, cur, h1, _⟩
    · have := runeCells_le r; omega
    · exact ⟨_, _, h1⟩
  obtain ⟨A2, c2, rfl⟩ := shape
  rw [blk_own] at hg
  refine ⟨A2, _, c2, rfl, ⟨?_, ?_⟩, o, hg⟩
  · rw [List.length_append, ← ho.len, cells_encode, List.length_map]
  · rw [List.map_append, ← cells_encode]; exact hown
set_option maxHeartbeats 1000000 in
theorem append_any (A : Option Addr) (n c : Nat) (l : List UInt8) (r : Int) (w : World) (hl : By w A n l) (hr0 : -2147483648 ≤ r) (hr1 : r ≤ 2147483647) (hn : n + 4 ≤ 140737488355328) :
    Calls Tryd.prog 18 #[.slice A n c, .int .i32 r] w (NewS .u8 5 (nums (l ++ encodeRune r)) w) := by
  obtain ⟨i0, hi0, hz0, hz1, hz2⟩ := info_parts u8_row
  have LX := Lib.hid hl.len
  have o1 : Own .u8 5 w.heap.size (w.alloc (.cells #[] 5)) (some ⟨w.heap.size, 0, none⟩) 0 0 [] := Own.new .u8 _ w.heap.size w (Nat.le_refl _) [] _ 0 rfl rfl (by simp [maxLen])
  have hx1 : Nx w (w.alloc (.cells #[] 5)) := (Nx.refl w).alloc _
  have f0 := hl.next hx1
  rw [nums_append]
  go_enter Tryd.func18, Tryd.ntmps18
  go_wp2_with (first
    | (at_builtin; have _t := o1; go_must (refine wpList_append_sl _ rfl (.tmp 5) (.tmp 6) _ rfl w.heap.size 5 i0 _ 1 Tryd.underlying22 hi0 hz0 hz1 hz2 rfl _ 0 0 [] rfl o1 A n c (nums l) rfl f0 (by simp only [maxLen]; omega) (by omega) hx1.size ?_); intro B1 m1' d1 w2 q1 hg1 hat1; have hx2 := hx1.app o1 hg1; have hm1 : m1' ≤ n := Nat.le_of_eq (q1.len.trans ((nums_length l).trans LX.out)); rw [List.nil_append] at q1; clear _t o1 hx1 f0 hg1 hat1)
    | (go_at_call 38; refine (utf8_append w.heap.size _ _ _ (nums l) _ _ q1 hr0 hr1 (by omega) hx2.size).mono ?_; rintro e w3 ⟨A3, n3, c3, rfl, q3, o3, hg3⟩; have hx3 : Nx w w3 := (hx2.alloc o3).app (kept_alloc q1 o3) hg3))
  go_ret
  exact ⟨_, _, _, rfl, q3, hx3⟩
/-- Onto nothing: the encoding alone. -/
theorem append_new (A : Option Addr) (c : Nat) (r : Int) (w : World) (hr0 : -2147483648 ≤ r) (hr1 : r ≤ 2147483647) :
    Calls Tryd.prog 18 #[.slice A 0 c, .int .i32 r] w fun e w' => ∃ A' n' c', e = .returned (.slice A' n' c') ∧ Own .u8 5 w.heap.size w' A' n' c' (nums (encodeRune r)) ∧ Hid (n' = (encodeRune r).length) ∧ 1 ≤ n' ∧ n' ≤ 4 ∧ n' ≤ c' ∧ Nx w w' := by
  refine (append_any A 0 c [] r w (By.empty _ _) hr0 hr1 (by omega)).mono ?_
  rintro e w' ⟨A', n', c', rfl, o, x⟩
  rw [List.nil_append] at o
  have hl : n' = (encodeRune r).length := by have := o.len; rw [nums_length] at this; exact this
  have := enc_length r
  exact ⟨A', n', c', rfl, o, hl, by omega, by omega, o.cap_.1, x⟩
end Go.Proofs.YtcgpnmlemjldaaaDoor
