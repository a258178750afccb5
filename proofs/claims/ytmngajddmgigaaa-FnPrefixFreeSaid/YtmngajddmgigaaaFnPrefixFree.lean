/- FnPrefixFree: the encoding of one good rune begins with that of another one only if they are the same. No condition. -/
import Derived.Test.YtmngajddmgigaaaFrame
import Derived.Test.YtmngajddmgigaaaGood
import Derived.Test.YtmngajddmgigaaaAppend
import Derived.Test.YtmngajddmgigaaaSame
namespace Go.Proofs.Ytmngajddmgigaaa
open Go.RowKit Go.Lib
set_option linter.unusedVariables false
theorem pre_ne {a b : Int} (ha : goodB a = true) (hb : goodB b = true) (h : a ≠ b) : eqB ((encodeRune b).take (encodeRune a).length) (encodeRune a) = false := by
  refine eqB_ne fun he => h ?_
  have := List.take_append_drop (encodeRune a).length (encodeRune b)
  rw [he] at this
  exact (enc_pre (p := (encodeRune b).drop (encodeRune a).length) (q := []) ha hb (by rw [List.append_nil]; exact this)).1
set_option maxRecDepth 100000 in
set_option maxHeartbeats 1000000 in
theorem fnPrefixFree_walk (a0 a1 : Int) (w : World) (b0 : -2147483648 ≤ a0 ∧ a0 ≤ 2147483647) (b1 : -2147483648 ≤ a1 ∧ a1 ≤ 2147483647) :
    Calls Try.prog 4 #[.int .i32 a0, .int .i32 a1] w fun e w' => e = .returned (.bool true) ∧ Nx w w' := by
  obtain ⟨h1, h2⟩ := b0
  obtain ⟨h3, h4⟩ := b1
  cases hg : goodB a0 with
  | false =>
    go_enter Try.func4, Try.ntmps4
    go_wp2_with (go_at_call 18; refine (good_any _ _).mono ?_; rintro e w' ⟨rfl, rfl⟩)
    go_ret
    exact ⟨rfl, Nx.refl _⟩
  | true =>
    cases hk : goodB a1 with
    | false =>
      go_enter Try.func4, Try.ntmps4
      go_wp2_with (go_at_call 18; refine (good_any _ _).mono ?_; rintro e w' ⟨rfl, rfl⟩)
      go_ret
      exact ⟨rfl, Nx.refl _⟩
    | true =>
      have hx0 : Nx w (w.alloc (.cells #[] 5)) := (Nx.refl w).alloc _
      go_enter Try.func4, Try.ntmps4
      go_wp2_with (go_at_call 18; refine (good_any _ _).mono ?_; rintro e w' ⟨rfl, rfl⟩)
      refine (append_new _ _ a0 _ h1 h2).mono ?_
      rintro e w1 ⟨A1, n1, c1, rfl, o1, l1, p1, q1, g1, x1⟩
      have x2 : Nx w1 (w1.alloc (.cells #[] 5)) := (Nx.refl w1).alloc _
      go_wp2_with fail
      refine (append_new _ _ a1 _ h3 h4).mono ?_
      rintro e w2 ⟨A2, n2, c2, rfl, o2, l2, p2, q2, g2, x3⟩
      have y := ((hx0.trans x1).trans x2).trans x3
      have s1 : By w2 A1 n1 (encodeRune a0) := (o1.sl.next x2).next x3
      have s2 : By w2 A2 n2 (encodeRune a1) := o2.sl
      have z1 : ((n1 : Int) == 0) = false := by simp; omega
      have z2 : ((n2 : Int) == 0) = false := by simp; omega
      clear o1 o2 x1 x2 x3 hx0
      by_cases hle : n1 ≤ n2
      · have hup := fun W => run_upto (P := Try.prog) 22 5 Try.underlying22 (fun _ => by kernel_rfl) A2 n2 c2 .i64 (n1 : Int) n1 rfl (by omega) W
        go_wp2_with fail
        clear hup
        refine (same_u8_by _ _ _ _ _ _ ((encodeRune a1).take n1) (encodeRune a0) _ (s2.upto hle) s1 (by omega) (by omega)).mono ?_
        rintro e w3 ⟨rfl, x3⟩
        by_cases hab : a0 = a1
        · subst hab
          have he : (a0 == a0) = true := by simp
          rw [l1.out, List.take_length, eqB_refl]
          go_wp2_with fail
          go_ret
          exact ⟨rfl, y.trans x3⟩
        · have he : (a0 == a1) = false := by simp [hab]
          rw [l1.out, pre_ne hg hk hab]
          go_wp2_with fail
          go_ret
          exact ⟨rfl, y.trans x3⟩
      · have he : (a0 == a1) = false := by
          by_cases hab : a0 = a1
          · subst hab; rw [l1.out, l2.out] at hle; omega
          · simp [hab]
        go_wp2_with fail
        go_ret
        exact ⟨rfl, y⟩
namespace fnPrefixFree
open Go.ChangeShapes Go.WideShapes Go.ChangeAt Go.RowKit
open Go.ChangeMaps (open_string shut_string)
set_option maxRecDepth 100000 in
set_option linter.unusedVariables false in
theorem lifted (os : Os) (started : os.Started) (H : Type) (enc : TypeId × Value → H) :
    ReturnsInHanded {} Try.checked os 4 .any (Rows.fnPrefixFreeSpec.pre6 enc Try.prog Try.f4 Rows.fnPrefixFreeRow.domain false) (Rows.fnPrefixFreeSpec.post enc Try.prog Try.f4 false true false false) := by
  refine returnsInHanded_of_change_sized (C := Try.checked) own started (by kernel_rfl) Try.func4
    (ChangeSpec.witness6 (enc := enc) (C := Try.checked) false ⟨#[], #[.int .i32 0, .int .i32 0], []⟩ 8 (by kernel_rfl) (by kernel_rfl) (by kernel_rfl) (by kernel_rfl)) ?_
  intro W base args ds gs before hval0 hW hcnd hsz0 _
  have hsz : (DataW.weightsEach Try.prog (Try.f4.params.toList ++ Rows.fnPrefixFreeSpec.plain.varTypes Try.prog) (ds ++ gs)).all (· ≤ reachBytes) = true := hsz0
  rw [Try.params4] at hsz
  have hval : ∀ (j : Nat) t v, Try.f4.params[j]? = some t → args[j]? = some v → Value.okWide Try.prog W .any base t v := hval0
  have hW' := hW
  obtain ⟨p, q, hA0, hV, rfl, hfz, hnd⟩ := hW
  have hA : DataW.TrodAll enc Try.prog W 0 (fun _ => true) true Try.f4.params.toList args.toList ds p := hA0
  rw [Try.params4] at hA hval
  obtain ⟨v0, vs0, d0, ds0, p0, q0, hargs, rfl, rfl, h0, r0⟩ := trodAll_cons hA
  obtain ⟨v1, vs1, d1, ds1, p1, q1, rfl, rfl, rfl, h1, r1⟩ := trodAll_cons r0
  obtain ⟨rfl, rfl, rfl⟩ := trodAll_nil r1
  obtain rfl : args = #[v0, v1] := by cases args; simp_all
  obtain ⟨rfl, rfl⟩ := trodVars_none hV
  have k0 := h0
  have lt0 : ∀ x ∈ p0, x.block < W.heap.size := by obtain ⟨m, hm⟩ := k0; exact DataW.trod_lt m _ _ _ hm
  obtain ⟨a0, rfl, rfl, rfl, w0⟩ := open_int Try.underlying21 (hval 0 21 v0 rfl rfl) h0
  have b0 : -2147483648 ≤ a0 ∧ a0 ≤ 2147483647 := by simpa [Lit.wf, IntKind.min, IntKind.max, IntKind.signed, IntKind.bits] using w0
  have k1 := h1
  have lt1 : ∀ x ∈ p1, x.block < W.heap.size := by obtain ⟨m, hm⟩ := k1; exact DataW.trod_lt m _ _ _ hm
  obtain ⟨a1, rfl, rfl, rfl, w1⟩ := open_int Try.underlying21 (hval 1 21 v1 rfl rfl) h1
  have b1 : -2147483648 ≤ a1 ∧ a1 ≤ 2147483647 := by simpa [Lit.wf, IntKind.min, IntKind.max, IntKind.signed, IntKind.bits] using w1
  clear hA0 hval0
  refine (fnPrefixFree_walk a0 a1 W b0 b1).mono fun e W' ⟨he, bel⟩ => ?_
  subst he
  exact ⟨_, rfl, _, _, _, [], _, [], hW', trodAll_mk1 (shut_bool Try.underlying4 _), (trodAll_cons_mk (shut_int Try.underlying21 w0) (trodAll_cons_mk (shut_int Try.underlying21 w1) trodAll_mk0)), rfl, bel.out.frame _, fun h => by cases h⟩
theorem said : Rows.FnPrefixFreeSaid :=
  OpenClaim.holds_of_wide 4 Try.f4 rfl rfl rfl rfl rfl rfl rfl ⟨rfl, rfl, rfl, rfl, rfl⟩ rfl rfl rfl rfl rfl (by kernel_rfl) Try.func4 (by kernel_rfl)
    (of_decide_eq_true (by kernel_rfl)) (by unfold Func.isWrapper; first | (rw [if_pos (by decide +kernel)]; kernel_rfl) | (rw [if_neg (by decide +kernel)]; exact ⟨rfl, rfl⟩))
    (fun os started H enc _ => lifted os started H enc)
end fnPrefixFree
end Go.Proofs.Ytmngajddmgigaaa
