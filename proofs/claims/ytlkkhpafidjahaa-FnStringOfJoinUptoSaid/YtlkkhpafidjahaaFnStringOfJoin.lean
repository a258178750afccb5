/- FnStringOfJoin: runes of two lists that are converted are those of the first list, and behind them those of the second one. The condition: what is read is of bulk at most 1048576. -/
import Derived.Test.YtlkkhpafidjahaaFrame
import Derived.Test.YtlkkhpafidjahaaConv
import Derived.Deep.DeepMust
namespace Go.Proofs.Ytlkkhpafidjahaa
open Go.RowKit Go.Lib
set_option linter.unusedVariables false
theorem rune_info : (Try.prog.info? 21).map (fun i => (i.zero, i.size, i.bytes)) = some (some (.int .i32 0), 1, 4) := by kernel_rfl
theorem len_two {m n k : Nat} {a b : List Int} (h : m = (a ++ b).length) (ha : a.length = n) (hb : b.length = k) : m = n + k := by rw [h, List.length_append, ha, hb]
set_option maxHeartbeats 1000000 in
theorem fnStringOfJoin_walk (A0 : Option Addr) (n0 c0 : Nat) (z0 : List Int) (A1 : Option Addr) (n1 c1 : Nat) (z1 : List Int) (w : World) (e0 : Sl .i32 w A0 n0 z0) (_b0 : ∀ z ∈ z0, -2147483648 ≤ z ∧ z ≤ 2147483647) (g0 : n0 ≤ c0) (m0 : c0 ≤ 1048576)
    (e1 : Sl .i32 w A1 n1 z1) (_b1 : ∀ z ∈ z1, -2147483648 ≤ z ∧ z ≤ 2147483647) (g1 : n1 ≤ c1) (m1 : c1 ≤ 1048576) (_hu : c0 + c1 ≤ 1048576) :
    Calls Try.prog 7 #[.slice A0 n0 c0, .slice A1 n1 c1] w fun e w' => e = .returned (.bool true) ∧ Nx w w' := by
  obtain ⟨i0, hi0, hz0, hz1, hz2⟩ := info_parts rune_info
  have LX := Lib.hid e0.len
  have LY := Lib.hid e1.len
  clear _b0 _b1
  obtain ⟨X, hX⟩ : ∃ X, Hid (strOf (text (z0 ++ z1)) = X) := ⟨_, rfl⟩
  obtain ⟨P0, hP⟩ : ∃ X, Hid (strOf (text z0) = X) := ⟨_, rfl⟩
  obtain ⟨Q0, hQ⟩ : ∃ X, Hid (strOf (text z1) = X) := ⟨_, rfl⟩
  have hsum : Hid (P0 ++ Q0 = X) := by show _ = _; rw [← hP.out, ← hQ.out, ← hX.out, append_strOf, text_append]
  have hs1 : P0.size ≤ 4194304 := by have := (text_length z0).2; rw [← hP.out, strOf_size]; rw [LX.out] at this; omega
  have hs2 : Q0.size ≤ 4194304 := by have := (text_length z1).2; rw [← hQ.out, strOf_size]; rw [LY.out] at this; omega
  have hs3 : n0 + n1 ≤ X.size := by have := (text_length (z0 ++ z1)).1; rw [← hX.out, strOf_size]; rw [List.length_append, LX.out, LY.out] at this; exact this
  have heq : (X.toList == (P0 ++ Q0).toList) = true := by rw [hsum.out]; simp
  have cx := Lib.hid fun A n c W hx => stringOf_any A n c (z0 ++ z1) W hx
  have cp := Lib.hid fun W hx => stringOf_any A0 n0 c0 z0 W hx
  have cq := Lib.hid fun W hx => stringOf_any A1 n1 c1 z1 W hx
  rw [hX.out] at cx
  rw [hP.out] at cp
  rw [hQ.out] at cq
  have o1 : Own .i32 21 w.heap.size (w.alloc (.cells #[] 21)) (some ⟨w.heap.size, 0, none⟩) 0 0 [] := Own.new .i32 _ w.heap.size w (Nat.le_refl _) [] _ 0 rfl rfl (by simp [maxLen])
  have hx1 : Nx w (w.alloc (.cells #[] 21)) := (Nx.refl w).alloc _
  have f0 := e0.next hx1
  go_enter Try.func7, Try.ntmps7
  go_wp2_with (first
    | (at_builtin; have _t := o1; go_must (refine wpList_append_sl _ rfl (.tmp 7) (.tmp 8) _ rfl w.heap.size 21 i0 _ 4 Try.underlying22 hi0 hz0 hz1 hz2 rfl _ 0 0 [] rfl o1 A0 n0 c0 z0 rfl f0 (by simp only [maxLen]; omega) (by omega) hx1.size ?_; intro B1 m1' d1 w2 q1 hg1 hat1; have hx2 := hx1.app o1 hg1; have f1 := e1.next hx2; have hm1 : m1' ≤ 1048576 := Nat.le_trans (Nat.le_of_eq (q1.len.trans LX.out)) (Nat.le_trans g0 m0); clear _t o1 hx1 f0 hg1 hat1))
    | (at_builtin; have _t := q1; go_must (refine wpList_append_sl _ rfl (.tmp 9) (.tmp 10) _ rfl w.heap.size 21 i0 _ 4 Try.underlying22 hi0 hz0 hz1 hz2 rfl B1 m1' d1 _ rfl q1 A1 n1 c1 z1 rfl f1 (by simp only [maxLen]; omega) (by omega) hx2.size ?_); intro B2 m2' d2 w3 q2 hg2 hat2; have hx3 := hx2.app q1 hg2; rw [List.nil_append] at q2; have hm2 : m2' = n0 + n1 := len_two q2.len LX.out LY.out; subst hm2; clear _t q1 hg2 hat2 hx2 f1))
  refine (cx.out _ _ _ _ q2.sl).mono ?_
  rintro e w4 ⟨rfl, rfl⟩
  go_wp2_with fail
  refine (cp.out _ (e0.next hx3)).mono ?_
  rintro e w4 ⟨rfl, rfl⟩
  go_wp2_with fail
  refine (cq.out _ (e1.next hx3)).mono ?_
  rintro e w4 ⟨rfl, rfl⟩
  go_wp2_with fail
  go_ret
  exact ⟨ret_bool (by simp; omega), hx3⟩
namespace fnStringOfJoin
open Go.ChangeShapes Go.WideShapes Go.ChangeAt Go.RowKit
open Go.ChangeMaps (open_string shut_string)
set_option maxRecDepth 100000 in
set_option linter.unusedVariables false in
theorem lifted (os : Os) (started : os.Started) (H : Type) (enc : TypeId × Value → H) (F : Stop.Interp) :
    ReturnsInHanded {} Try.checked os 7 .any ((Rows.OpenSpec.upto Rows.fnStringOfJoinSpec).pre6 enc Try.prog Try.f7 Rows.fnStringOfJoinUptoRow.domain false) (((Rows.OpenSpec.upto Rows.fnStringOfJoinSpec).at F).post enc Try.prog Try.f7 false true false false) := by
  refine returnsInHanded_of_cond (C := Try.checked) (s := Rows.OpenSpec.upto Rows.fnStringOfJoinSpec) (k := Rows.uptoSmall) rfl own started (by kernel_rfl) Try.func7
    (OpenSpec.witness (enc := enc) (C := Try.checked) (s := Rows.OpenSpec.upto Rows.fnStringOfJoinSpec) (k := Rows.uptoSmall) rfl false ⟨#[], #[.slice none 0 0, .slice none 0 0], []⟩ 8 (by kernel_rfl) (by kernel_rfl) (by kernel_rfl)
      (x := ([.nil, .nil], [], [])) (by kernel_rfl) rfl (by kernel_rfl)) ?_
  intro W base args ds gs before hval0 hW _ hk _
  have hval : ∀ (j : Nat) t v, Try.f7.params[j]? = some t → args[j]? = some v → Value.okWide Try.prog W .any base t v := hval0
  have hW' := hW
  obtain ⟨p, q, hA0, hV, rfl, hfz, hnd⟩ := hW
  have hA : DataW.TrodAll enc Try.prog W 0 (fun _ => true) true Try.f7.params.toList args.toList ds p := hA0
  rw [Try.params7] at hA hval
  obtain ⟨v0, vs0, d0, ds0, p0, q0, hargs, rfl, rfl, h0, r0⟩ := trodAll_cons hA
  obtain ⟨v1, vs1, d1, ds1, p1, q1, rfl, rfl, rfl, h1, r1⟩ := trodAll_cons r0
  obtain ⟨rfl, rfl, rfl⟩ := trodAll_nil r1
  obtain rfl : args = #[v0, v1] := by cases args; simp_all
  obtain ⟨rfl, rfl⟩ := trodVars_none hV
  have k0 := h0
  have lt0 : ∀ x ∈ p0, x.block < W.heap.size := by obtain ⟨m, hm⟩ := k0; exact DataW.trod_lt m _ _ _ hm
  obtain ⟨A0, n0, c0, zz0, rfl, e0, g0, m0, w0, u0⟩ := open_sl Try.underlying22 Try.underlying21 (by kernel_rfl) (hval 0 22 v0 rfl rfl) h0
  have b0 : ∀ z ∈ zz0, -2147483648 ≤ z ∧ z ≤ 2147483647 := fun z hz => by simpa [Lit.wf, IntKind.min, IntKind.max, IntKind.signed, IntKind.bits] using w0 z hz
  have z0 : c0 ≤ 1048576 := by have := bulk_held u0; have hb := bulk_bound hk; simp only [Rows.uptoBulkAll, List.append_nil] at hb; omega
  have k1 := h1
  have lt1 : ∀ x ∈ p1, x.block < W.heap.size := by obtain ⟨m, hm⟩ := k1; exact DataW.trod_lt m _ _ _ hm
  obtain ⟨A1, n1, c1, zz1, rfl, e1, g1, m1, w1, u1⟩ := open_sl Try.underlying22 Try.underlying21 (by kernel_rfl) (hval 1 22 v1 rfl rfl) h1
  have b1 : ∀ z ∈ zz1, -2147483648 ≤ z ∧ z ≤ 2147483647 := fun z hz => by simpa [Lit.wf, IntKind.min, IntKind.max, IntKind.signed, IntKind.bits] using w1 z hz
  have z1 : c1 ≤ 1048576 := by have := bulk_held u1; have hb := bulk_bound hk; simp only [Rows.uptoBulkAll, List.append_nil] at hb; omega
  have hu : c0 + c1 ≤ 1048576 := by have q0 := bulk_held u0; have q1 := bulk_held u1; have hb := bulk_bound hk; simp only [Rows.uptoBulkAll, List.append_nil] at hb; omega
  clear hA0 hval0
  refine (fnStringOfJoin_walk A0 n0 c0 zz0 A1 n1 c1 zz1 W e0 b0 g0 z0 e1 b1 g1 z1 hu).mono fun e W' ⟨he, bel⟩ => ?_
  subst he
  exact ⟨_, rfl, _, _, _, [], _, [], hW', trodAll_mk1 (shut_bool Try.underlying4 _), (trodAll_cons_mk (Below.trod laidOut (by kernel_rfl) (of_decide_eq_true (by kernel_rfl)) k0 bel.out lt0) (trodAll_cons_mk (Below.trod laidOut (by kernel_rfl) (of_decide_eq_true (by kernel_rfl)) k1 bel.out lt1) trodAll_mk0)), rfl, bel.out.frame _, fun h => by cases h⟩
theorem said : Rows.FnStringOfJoinUptoSaid :=
  OpenClaim.holds_of_cond 7 Try.f7 rfl rfl rfl rfl rfl rfl rfl ⟨rfl, rfl, rfl, rfl, rfl⟩ rfl rfl rfl rfl rfl (by kernel_rfl) Try.func7 (by kernel_rfl)
    (of_decide_eq_true (by kernel_rfl)) (by unfold Func.isWrapper; first | (rw [if_pos (by decide +kernel)]; kernel_rfl) | (rw [if_neg (by decide +kernel)]; exact ⟨rfl, rfl⟩))
    (fun os started H enc _ F => lifted os started H enc F)
end fnStringOfJoin
end Go.Proofs.Ytlkkhpafidjahaa
