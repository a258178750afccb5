/- FnExactRuneCountInString: RuneCountInString tells of every string of at most 2^20 bytes what the reference tells. No condition. -/
import Derived.Test.YtmfdpmokphdbiaaFrame
import Derived.Test.YtmfdpmokphdbiaaCount
namespace Go.Proofs.Ytmfdpmokphdbiaa
open Go.RowKit Go.Lib
set_option linter.unusedVariables false
set_option maxHeartbeats 1000000 in
theorem fnExactRuneCountInString_walk (s0 : ByteArray) (w : World) (m0 : s0.size ≤ 140737488351232) :
    Calls Try.prog 4 #[.string s0] w fun e w' => e = .returned (.bool true) ∧ Nx w w' := by
  by_cases hb : 1048576 < s0.size
  · go_enter Try.func4, Try.ntmps4
    go_wp2_with fail
    go_ret
    exact ⟨rfl, Nx.refl _⟩
  · obtain ⟨K, hK⟩ : ∃ K, Hid (cnt s0.data.toList = K) := ⟨_, rfl⟩
    have hKK : ((K : Int) != (K : Int)) = false := by simp
    go_enter Try.func4, Try.ntmps4
    go_wp2_with fail
    refine (specCountS_any s0 _ (by omega)).mono ?_
    rw [hK.out]
    rintro e w1 ⟨rfl, x1⟩
    go_wp2_with fail
    refine (countS_any s0 _ (by omega)).mono ?_
    rw [hK.out]
    rintro e w2 ⟨rfl, x2⟩
    go_wp2_with fail
    go_ret
    exact ⟨rfl, x1.trans x2⟩
namespace fnExactRuneCountInString
open Go.ChangeShapes Go.WideShapes Go.ChangeAt Go.RowKit
open Go.ChangeMaps (open_string shut_string)
set_option maxRecDepth 100000 in
set_option linter.unusedVariables false in
theorem lifted (os : Os) (started : os.Started) (H : Type) (enc : TypeId × Value → H) :
    ReturnsInHanded {} Try.checked os 4 .any (Rows.fnExactRuneCountInStringSpec.pre6 enc Try.prog Try.f4 Rows.fnExactRuneCountInStringRow.domain false) (Rows.fnExactRuneCountInStringSpec.post enc Try.prog Try.f4 false true false false) := by
  refine returnsInHanded_of_change_sized (C := Try.checked) own started (by kernel_rfl) Try.func4
    (ChangeSpec.witness6 (enc := enc) (C := Try.checked) false ⟨#[], #[.string ⟨#[]⟩], []⟩ 8 (by kernel_rfl) (by kernel_rfl) (by kernel_rfl) (by kernel_rfl)) ?_
  intro W base args ds gs before hval0 hW hcnd hsz0 _
  have hsz : (DataW.weightsEach Try.prog (Try.f4.params.toList ++ Rows.fnExactRuneCountInStringSpec.plain.varTypes Try.prog) (ds ++ gs)).all (· ≤ reachBytes) = true := hsz0
  rw [Try.params4] at hsz
  have hval : ∀ (j : Nat) t v, Try.f4.params[j]? = some t → args[j]? = some v → Value.okWide Try.prog W .any base t v := hval0
  have hW' := hW
  obtain ⟨p, q, hA0, hV, rfl, hfz, hnd⟩ := hW
  have hA : DataW.TrodAll enc Try.prog W 0 (fun _ => true) true Try.f4.params.toList args.toList ds p := hA0
  rw [Try.params4] at hA hval
  obtain ⟨v0, vs0, d0, ds0, p0, q0, hargs, rfl, rfl, h0, r0⟩ := trodAll_cons hA
  obtain ⟨rfl, rfl, rfl⟩ := trodAll_nil r0
  obtain rfl : args = #[v0] := by cases args; simp_all
  obtain ⟨rfl, rfl⟩ := trodVars_none hV
  have k0 := h0
  have lt0 : ∀ x ∈ p0, x.block < W.heap.size := by obtain ⟨m, hm⟩ := k0; exact DataW.trod_lt m _ _ _ hm
  obtain ⟨s0, rfl, rfl, rfl, w0⟩ := open_string Try.underlying9 (hval 0 9 v0 rfl rfl) h0
  have z0 : s0.size ≤ 140737488351232 := str_size (j := 0) (t := 9) hsz (by rfl) rfl
  clear hA0 hval0
  refine (fnExactRuneCountInString_walk s0 W z0).mono fun e W' ⟨he, bel⟩ => ?_
  subst he
  exact ⟨_, rfl, _, _, _, [], _, [], hW', trodAll_mk1 (shut_bool Try.underlying4 _), (trodAll_cons_mk (shut_string Try.underlying9 w0) trodAll_mk0), rfl, bel.out.frame _, fun h => by cases h⟩
theorem said : Rows.FnExactRuneCountInStringSaid :=
  OpenClaim.holds_of_wide 4 Try.f4 rfl rfl rfl rfl rfl rfl rfl ⟨rfl, rfl, rfl, rfl, rfl⟩ rfl rfl rfl rfl rfl (by kernel_rfl) Try.func4 (by kernel_rfl)
    (of_decide_eq_true (by kernel_rfl)) (by unfold Func.isWrapper; first | (rw [if_pos (by decide +kernel)]; kernel_rfl) | (rw [if_neg (by decide +kernel)]; exact ⟨rfl, rfl⟩))
    (fun os started H enc _ => lifted os started H enc)
end fnExactRuneCountInString
end Go.Proofs.Ytmfdpmokphdbiaa
