/- Contract: spec.Joined: a new slice with the bytes of both. -/
import Derived.Test.YtdhofjhmbdeibaaDoorRows
import Derived.Test.YtdhofjhmbdeibaaDoorOwn
import Derived.Deep.DeepMust
namespace Go.Proofs.YtdhofjhmbdeibaaDoor
open Go.RowKit
set_option linter.unusedVariables false
theorem u8_info : (Tryd.prog.info? 5).map (fun i => (i.zero, i.size, i.bytes)) = some (some (.int .u8 0), 1, 1) := by kernel_rfl
set_option maxHeartbeats 1000000 in
theorem joined_any (A0 : Option Addr) (n0 c0 : Nat) (l0 : List UInt8) (A1 : Option Addr) (n1 c1 : Nat) (l1 : List UInt8) (w : World) (h0 : By w A0 n0 l0) (h1 : By w A1 n1 l1) (hn : n0 + n1 ≤ 140737488355328) :
    Calls Tryd.prog 23 #[.slice A0 n0 c0, .slice A1 n1 c1] w (NewS .u8 5 (nums (l0 ++ l1)) w) := by
  obtain ⟨i0, hi0, hz0, hz1, hz2⟩ := info_parts u8_info
  have LX := Lib.hid h0.len
  have o1 : Own .u8 5 w.heap.size (w.alloc (.cells #[] 5)) (some ⟨w.heap.size, 0, none⟩) 0 0 [] := Own.new .u8 _ w.heap.size w (Nat.le_refl _) [] _ 0 rfl rfl (by simp [maxLen])
  have hx1 : Nx w (w.alloc (.cells #[] 5)) := (Nx.refl w).alloc _
  have f0 := h0.next hx1
  rw [nums_append]
  go_enter Tryd.func23, Tryd.ntmps23
  go_wp2_with (first
    | (at_builtin; have _t := o1; go_must (refine wpList_append_sl _ rfl (.tmp 5) (.tmp 6) _ rfl w.heap.size 5 i0 _ 1 Tryd.underlying30 hi0 hz0 hz1 hz2 rfl _ 0 0 [] rfl o1 A0 n0 c0 (nums l0) rfl f0 (by simp only [maxLen]; omega) (by omega) hx1.size ?_); intro B1 m1' d1 w2 q1 hg1 hat1; have hx2 := hx1.app o1 hg1; have f1 := h1.next hx2; have hm1 : m1' ≤ n0 := Nat.le_of_eq (q1.len.trans ((nums_length l0).trans LX.out)); clear _t o1 hx1 f0 hg1 hat1)
    | (at_builtin; have _t := q1; go_must (refine wpList_append_sl _ rfl (.tmp 7) (.tmp 8) _ rfl w.heap.size 5 i0 _ 1 Tryd.underlying30 hi0 hz0 hz1 hz2 rfl B1 m1' d1 _ rfl q1 A1 n1 c1 (nums l1) rfl f1 (by simp only [maxLen]; omega) (by omega) hx2.size ?_); intro B2 m2' d2 w3 q2 hg2 hat2; have hx3 := hx2.app q1 hg2; rw [List.nil_append] at q2; clear _t q1 hg2 hat2 hx2 f1))
  go_ret
  exact ⟨_, _, _, rfl, q2, hx3⟩
end Go.Proofs.YtdhofjhmbdeibaaDoor
