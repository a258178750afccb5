/- FnExactRangeString: RangeString gives of every string of at most 2^20 bytes what the reference gives, in slices of their own. No condition. -/
import Derived.Test.YtliaaandgeogjaaFrame
import Derived.Test.YtliaaandgeogjaaRange
import Derived.Test.YtliaaandgeogjaaSame
import Derived.Test.YtliaaandgeogjaaMark
import Derived.Test.YtliaaandgeogjaaPlainE
namespace Go.Proofs.Ytliaaandgeogjaa
open Go.RowKit Go.Lib
set_option linter.unusedVariables false
set_option maxRecDepth 100000 in
set_option maxHeartbeats 2000000 in
theorem fnExactRangeString_walk (s0 : ByteArray) (w : World) (m0 : s0.size ≤ 140737488351232) :
    Calls Try.prog 3 #[.string s0] w fun e w' => e = .returned (.bool true) ∧ Nx w w' := by
  by_cases hb : 1048576 < s0.size
  · go_enter Try.func3, Try.ntmps3
    go_wp2_with fail
    go_ret
    exact ⟨rfl, Nx.refl _⟩
  obtain ⟨C, hC⟩ : ∃ K, Hid (cnt s0.data.toList = K) := ⟨_, rfl⟩
  have hCb : C ≤ 1048576 := by have := cnt_le s0.data.toList; rw [size_list, hC.out] at this; omega
  have hr : Hid ((runesL s0.data.toList).length = C) := by show _ = _; rw [← hC.out]; simp [runesL, cnt]
  have hp : Hid ((placesL s0.data.toList).length = C) := by show _ = _; rw [← hC.out]; unfold placesL; rw [placesGo_length]; rfl
  obtain ⟨M, hM⟩ : ∃ M, Hid (1 + C = M) := ⟨_, rfl⟩
  have hMb : M ≤ 1048577 := by have := hM.out; omega
  obtain ⟨M2, hM2⟩ : ∃ M2, Hid (M + C = M2) := ⟨_, rfl⟩
  have hM2b : M2 ≤ 2097153 := by have := hM2.out; omega
  have rm : ((M2 : Int) != (M2 : Int)) = false := by simp
  have z0 : decide ((1048576 : Int) < (s0.size : Int)) = false := by simp; omega
  go_enter Try.func3, Try.ntmps3
  go_wp2_with fail
  refine (specRange_any s0 _ (by omega)).mono ?_
  rintro e w1 ⟨A1, n1, c1, A2, n2, c2, rfl, o1, o2, x1⟩
  have e1 : n1 = C := by rw [o1.len, hp.out]
  have e2 : n2 = C := by rw [o2.len, hr.out]
  subst e2
  subst e1
  have s1 := o1.sl
  have s2 := o2.sl
  clear o1 o2
  go_wp2_with fail
  refine (range_any s0 _ (by omega)).mono ?_
  rintro e w2 ⟨B1, k1, d1, B2, k2, d2, rfl, p1, p2, a12, x2⟩
  have e1 : k1 = n1 := by rw [p1.len, hp.out]
  have e2 : k2 = n1 := by rw [p2.len, hr.out]
  subst e1
  subst e2
  go_wp2_with fail
  refine (eq_i64 B1 A1 _ _ d1 c1 _ _ w2 p1.sl (s1.next x2) (by omega) (by omega)).mono ?_
  rw [eqB_refl]
  rintro e w3 ⟨rfl, x3⟩
  have y3 := x2.trans x3
  have p1 := p1.next x3
  have p2 := p2.next x3
  go_wp2_with fail
  refine (eq_i32 B2 A2 _ _ d2 c2 _ _ w3 p2.sl (s2.next y3) (by omega) (by omega)).mono ?_
  rw [eqB_refl]
  rintro e w4 ⟨rfl, x4⟩
  have y4 := y3.trans x4
  have p1 := p1.next x4
  have p2 := p2.next x4
  have cm1 : ∀ W zs, Own .i64 2 w1.heap.size W B1 k2 d1 zs → Calls Try.prog 9 #[.slice B1 k2 d1, .int .i64 1] W fun e w' => e = .returned (.int .i64 (M : Int)) ∧ Own .i64 2 w1.heap.size w' B1 k2 d1 (marks 1 k2) ∧ W.grownBy w' (blk B1) := by
    intro W zs h
    have := mark_i64 w1.heap.size B1 k2 d1 zs 1 W h (by omega)
    rw [hM.out] at this
    exact this
  have cm2 : ∀ W zs, Own .i32 21 w1.heap.size W B2 k2 d2 zs → Calls Try.prog 10 #[.slice B2 k2 d2, .int .i64 (M : Int)] W fun e w' => e = .returned (.int .i64 (M2 : Int)) ∧ Own .i32 21 w1.heap.size w' B2 k2 d2 (marks M k2) ∧ W.grownBy w' (blk B2) := by
    intro W zs h
    have := mark_i32 w1.heap.size B2 k2 d2 zs M W h (by omega)
    rw [hM2.out] at this
    exact this
  have ch1 : ∀ W, Sl .i64 W B1 k2 (marks 1 k2) → Calls Try.prog 11 #[.slice B1 k2 d1, .int .i64 1] W fun e w' => e = .returned (.int .i64 (M : Int)) ∧ Nx W w' := by
    intro W h
    have := held_i64 B1 k2 d1 1 W h (by omega)
    rw [hM.out] at this
    exact this
  have ch2 : ∀ W, Sl .i32 W B2 k2 (marks M k2) → Calls Try.prog 12 #[.slice B2 k2 d2, .int .i64 (M : Int)] W fun e w' => e = .returned (.int .i64 (M2 : Int)) ∧ Nx W w' := by
    intro W h
    have := held_i32 B2 k2 d2 M W h (by omega)
    rw [hM2.out] at this
    exact this
  have CM1 := Lib.hid cm1
  have CM2 := Lib.hid cm2
  have CH1 := Lib.hid ch1
  have CH2 := Lib.hid ch2
  clear cm1 cm2 ch1 ch2 x2 x3 x4 y3
  go_wp2_with fail
  refine (CM1.out _ _ p1).mono ?_
  rintro e w5 ⟨rfl, q1, g1⟩
  have q2 := p2.kept g1 a12.ne
  have y5 := y4.app p1 g1
  clear p1 p2 g1
  go_wp2_with fail
  refine (CM2.out _ _ q2).mono ?_
  rintro e w6 ⟨rfl, r2, g2⟩
  have r1 := q1.kept g2 a12.symm.ne
  have y6 := y5.app q2 g2
  clear q1 q2 g2 y5 y4
  go_wp2_with fail
  refine (CH1.out _ r1.sl).mono ?_
  rintro e w7 ⟨rfl, x7⟩
  go_wp2_with fail
  refine (CH2.out _ (r2.sl.next x7)).mono ?_
  rintro e w8 ⟨rfl, x8⟩
  have y8 := x7.trans x8
  clear x7 x8
  go_wp2_with fail
  refine (range_any s0 _ (by omega)).mono ?_
  rintro e w9 ⟨D1, k3, f1, D2, k4, f2, rfl, t1, t2, _, x9⟩
  have e1 : k3 = k2 := by rw [t1.len, hp.out]
  have e2 : k4 = k2 := by rw [t2.len, hr.out]
  subst e1
  subst e2
  have y9 := y8.trans x9
  have v1 := t1.sl
  have v2 := t2.sl
  clear t1 t2 x9 y8
  go_wp2_with fail
  refine (eq_i64 D1 A1 _ _ f1 c1 _ _ w9 v1 (s1.next (y6.trans y9)) (by omega) (by omega)).mono ?_
  rw [eqB_refl]
  rintro e w10 ⟨rfl, x10⟩
  have y10 := y9.trans x10
  go_wp2_with fail
  refine (eq_i32 D2 A2 _ _ f2 c2 _ _ w10 (v2.next x10) (s2.next (y6.trans y10)) (by omega) (by omega)).mono ?_
  rw [eqB_refl]
  rintro e w11 ⟨rfl, x11⟩
  have y11 := y10.trans x11
  clear x10 x11 y9 y10
  go_wp2_with fail
  refine (CH1.out _ (r1.sl.next y11)).mono ?_
  rintro e w12 ⟨rfl, x12⟩
  go_wp2_with fail
  refine (CH2.out _ (r2.sl.next (y11.trans x12))).mono ?_
  rintro e w13 ⟨rfl, x13⟩
  go_wp2_with fail
  go_ret
  exact ⟨rfl, x1.trans (y6.trans (y11.trans (x12.trans x13)))⟩
namespace fnExactRangeString
open Go.ChangeShapes Go.WideShapes Go.ChangeAt Go.RowKit
open Go.ChangeMaps (open_string shut_string)
set_option maxRecDepth 100000 in
set_option linter.unusedVariables false in
theorem lifted (os : Os) (started : os.Started) (H : Type) (enc : TypeId × Value → H) :
    ReturnsInHanded {} Try.checked os 3 .any (Rows.fnExactRangeStringSpec.pre6 enc Try.prog Try.f3 Rows.fnExactRangeStringRow.domain false) (Rows.fnExactRangeStringSpec.post enc Try.prog Try.f3 false true false false) := by
  refine returnsInHanded_of_change_sized (C := Try.checked) own started (by kernel_rfl) Try.func3
    (ChangeSpec.witness6 (enc := enc) (C := Try.checked) false ⟨#[], #[.string ⟨#[]⟩], []⟩ 8 (by kernel_rfl) (by kernel_rfl) (by kernel_rfl) (by kernel_rfl)) ?_
  intro W base args ds gs before hval0 hW hcnd hsz0 _
  have hsz : (DataW.weightsEach Try.prog (Try.f3.params.toList ++ Rows.fnExactRangeStringSpec.plain.varTypes Try.prog) (ds ++ gs)).all (· ≤ reachBytes) = true := hsz0
  rw [Try.params3] at hsz
  have hval : ∀ (j : Nat) t v, Try.f3.params[j]? = some t → args[j]? = some v → Value.okWide Try.prog W .any base t v := hval0
  have hW' := hW
  obtain ⟨p, q, hA0, hV, rfl, hfz, hnd⟩ := hW
  have hA : DataW.TrodAll enc Try.prog W 0 (fun _ => true) true Try.f3.params.toList args.toList ds p := hA0
  rw [Try.params3] at hA hval
  obtain ⟨v0, vs0, d0, ds0, p0, q0, hargs, rfl, rfl, h0, r0⟩ := trodAll_cons hA
  obtain ⟨rfl, rfl, rfl⟩ := trodAll_nil r0
  obtain rfl : args = #[v0] := by cases args; simp_all
  obtain ⟨rfl, rfl⟩ := trodVars_none hV
  have k0 := h0
  have lt0 : ∀ x ∈ p0, x.block < W.heap.size := by obtain ⟨m, hm⟩ := k0; exact DataW.trod_lt m _ _ _ hm
  obtain ⟨s0, rfl, rfl, rfl, w0⟩ := open_string Try.underlying9 (hval 0 9 v0 rfl rfl) h0
  have z0 : s0.size ≤ 140737488351232 := str_size (j := 0) (t := 9) hsz (by rfl) rfl
  clear hA0 hval0
  refine (fnExactRangeString_walk s0 W z0).mono fun e W' ⟨he, bel⟩ => ?_
  subst he
  exact ⟨_, rfl, _, _, _, [], _, [], hW', trodAll_mk1 (shut_bool Try.underlying4 _), (trodAll_cons_mk (shut_string Try.underlying9 w0) trodAll_mk0), rfl, bel.out.frame _, fun h => by cases h⟩
theorem said : Rows.FnExactRangeStringSaid :=
  OpenClaim.holds_of_wide 3 Try.f3 rfl rfl rfl rfl rfl rfl rfl ⟨rfl, rfl, rfl, rfl, rfl⟩ rfl rfl rfl rfl rfl (by kernel_rfl) Try.func3 (by kernel_rfl)
    (of_decide_eq_true (by kernel_rfl)) (by unfold Func.isWrapper; first | (rw [if_pos (by decide +kernel)]; kernel_rfl) | (rw [if_neg (by decide +kernel)]; exact ⟨rfl, rfl⟩))
    (fun os started H enc _ => lifted os started H enc)
end fnExactRangeString
end Go.Proofs.Ytliaaandgeogjaa
