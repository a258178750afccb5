/- FnExactRuneLen: RuneLen tells of every rune what the reference tells. No condition. -/
import Derived.Test.YtmfdpmokphdbiaaFrame
import Derived.Test.YtmfdpmokphdbiaaRune
namespace Go.Proofs.Ytmfdpmokphdbiaa
open Go.RowKit Go.Lib
set_option linter.unusedVariables false
set_option maxHeartbeats 400000 in
theorem fnExactRuneLen_walk (a0 : Int) (w : World) (_b0 : -2147483648 ≤ a0 ∧ a0 ≤ 2147483647) :
    Calls Try.prog 7 #[.int .i32 a0] w fun e w' => e = .returned (.bool true) ∧ Nx w w' := by
  obtain ⟨x, hx⟩ : ∃ x, lenZ a0 = x := ⟨_, rfl⟩
  have c1 := Lib.hid fun w => specLen_any a0 w
  have c2 := Lib.hid fun w => len_any a0 w
  rw [hx] at c1 c2
  clear hx
  have hne : (x != x) = false := by simp
  go_enter Try.func7, Try.ntmps7
  go_wp2_with (first | (go_at_call 25; refine (c1.out _).mono ?_; rintro e w1 ⟨rfl, hn1⟩) | (go_at_call 26; refine (c2.out _).mono ?_; rintro e w' ⟨rfl, rfl⟩))
  go_ret
  exact ⟨rfl, hn1⟩
namespace fnExactRuneLen
open Go.ChangeShapes Go.WideShapes Go.ChangeAt Go.RowKit
open Go.ChangeMaps (open_string shut_string)
set_option maxRecDepth 100000 in
set_option linter.unusedVariables false in
theorem lifted (os : Os) (started : os.Started) (H : Type) (enc : TypeId × Value → H) :
    ReturnsInHanded {} Try.checked os 7 .any (Rows.fnExactRuneLenSpec.pre6 enc Try.prog Try.f7 Rows.fnExactRuneLenRow.domain false) (Rows.fnExactRuneLenSpec.post enc Try.prog Try.f7 false true false false) := by
  refine returnsInHanded_of_change_sized (C := Try.checked) own started (by kernel_rfl) Try.func7
    (ChangeSpec.witness6 (enc := enc) (C := Try.checked) false ⟨#[], #[.int .i32 0], []⟩ 8 (by kernel_rfl) (by kernel_rfl) (by kernel_rfl) (by kernel_rfl)) ?_
  intro W base args ds gs before hval0 hW hcnd hsz0 _
  have hsz : (DataW.weightsEach Try.prog (Try.f7.params.toList ++ Rows.fnExactRuneLenSpec.plain.varTypes Try.prog) (ds ++ gs)).all (· ≤ reachBytes) = true := hsz0
  rw [Try.params7] at hsz
  have hval : ∀ (j : Nat) t v, Try.f7.params[j]? = some t → args[j]? = some v → Value.okWide Try.prog W .any base t v := hval0
  have hW' := hW
  obtain ⟨p, q, hA0, hV, rfl, hfz, hnd⟩ := hW
  have hA : DataW.TrodAll enc Try.prog W 0 (fun _ => true) true Try.f7.params.toList args.toList ds p := hA0
  rw [Try.params7] at hA hval
  obtain ⟨v0, vs0, d0, ds0, p0, q0, hargs, rfl, rfl, h0, r0⟩ := trodAll_cons hA
  obtain ⟨rfl, rfl, rfl⟩ := trodAll_nil r0
  obtain rfl : args = #[v0] := by cases args; simp_all
  obtain ⟨rfl, rfl⟩ := trodVars_none hV
  have k0 := h0
  have lt0 : ∀ x ∈ p0, x.block < W.heap.size := by obtain ⟨m, hm⟩ := k0; exact DataW.trod_lt m _ _ _ hm
  obtain ⟨a0, rfl, rfl, rfl, w0⟩ := open_int Try.underlying21 (hval 0 21 v0 rfl rfl) h0
  have b0 : -2147483648 ≤ a0 ∧ a0 ≤ 2147483647 := by simpa [Lit.wf, IntKind.min, IntKind.max, IntKind.signed, IntKind.bits] using w0
  clear hA0 hval0
  refine (fnExactRuneLen_walk a0 W b0).mono fun e W' ⟨he, bel⟩ => ?_
  subst he
  exact ⟨_, rfl, _, _, _, [], _, [], hW', trodAll_mk1 (shut_bool Try.underlying4 _), (trodAll_cons_mk (shut_int Try.underlying21 w0) trodAll_mk0), rfl, bel.out.frame _, fun h => by cases h⟩
theorem said : Rows.FnExactRuneLenSaid :=
  OpenClaim.holds_of_wide 7 Try.f7 rfl rfl rfl rfl rfl rfl rfl ⟨rfl, rfl, rfl, rfl, rfl⟩ rfl rfl rfl rfl rfl (by kernel_rfl) Try.func7 (by kernel_rfl)
    (of_decide_eq_true (by kernel_rfl)) (by unfold Func.isWrapper; first | (rw [if_pos (by decide +kernel)]; kernel_rfl) | (rw [if_neg (by decide +kernel)]; exact ⟨rfl, rfl⟩))
    (fun os started H enc _ => lifted os started H enc)
end fnExactRuneLen
end Go.Proofs.Ytmfdpmokphdbiaa
