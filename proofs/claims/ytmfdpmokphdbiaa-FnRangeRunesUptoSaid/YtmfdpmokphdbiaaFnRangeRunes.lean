/- FnRangeRunes: a range clause goes over the same runes as the conversion gives, as many as RuneCountInString tells. The condition: what is read is of bulk at most 1048576. -/
import Derived.Test.YtmfdpmokphdbiaaFrame
import Derived.Test.YtmfdpmokphdbiaaRange
import Derived.Test.YtmfdpmokphdbiaaConv
import Derived.Test.YtmfdpmokphdbiaaCount
import Derived.Test.YtmfdpmokphdbiaaSame
namespace Go.Proofs.Ytmfdpmokphdbiaa
open Go.RowKit Go.Lib
set_option linter.unusedVariables false
set_option maxRecDepth 100000 in
set_option maxHeartbeats 1000000 in
theorem fnRangeRunes_walk (s0 : ByteArray) (w : World) (m0 : s0.size ≤ 1048576) :
    Calls Try.prog 10 #[.string s0] w fun e w' => e = .returned (.bool true) ∧ Nx w w' := by
  have hlen : (runesL s0.data.toList).length ≤ 1048576 := by have := runesL_len s0.data.toList; rw [size_list] at this; omega
  obtain ⟨K, hK⟩ : ∃ K, Hid (cnt s0.data.toList = K) := ⟨_, rfl⟩
  have hKb : K ≤ 1048576 := by have := cnt_le s0.data.toList; rw [size_list, hK.out] at this; omega
  have hKK : ((K : Int) == (K : Int)) = true := by simp
  have hr : Hid ((runesL s0.data.toList).length = K) := by show _ = _; rw [← hK.out]; simp [runesL, cnt]
  have hp : Hid ((placesL s0.data.toList).length = K) := by show _ = _; rw [← hK.out]; unfold placesL; rw [placesGo_length]; rfl
  have hz : Hid (s0.size = 0 ∨ 0 < K) := by
    by_cases h : s0.size = 0
    · exact Or.inl h
    · right
      rw [← hK.out]
      refine cnt_pos _ ?_
      intro h0
      have := size_list s0
      rw [h0] at this
      simp at this
      omega
  go_enter Try.func10, Try.ntmps10
  go_wp2_with fail
  refine (range_any s0 _ (by omega)).mono ?_
  rintro e w1 ⟨A1, n1, c1, A2, n2, c2, rfl, o1, o2, _, x1⟩
  have e1 : n1 = K := by rw [o1.len, hp.out]
  have e2 : n2 = K := by rw [o2.len, hr.out]
  subst e2
  subst e1
  go_wp2_with fail
  refine (runesOf_any s0 _ (by omega)).mono ?_
  rintro e w2 ⟨A3, n3, c3, rfl, o3, x2⟩
  go_wp2_with fail
  refine (same_runes _ _ _ _ _ _ (runesL s0.data.toList) (runesL s0.data.toList) _ o3.sl (o2.sl.next x2) (by rw [o3.len]; omega) (by omega)).mono ?_
  rintro e w3 ⟨rfl, x3⟩
  rw [eqB_refl]
  go_wp2_with fail
  refine (countS_any s0 _ (by omega)).mono ?_
  rw [hK.out]
  rintro e w4 ⟨rfl, x4⟩
  have y4 := ((x1.trans x2).trans x3).trans x4
  rcases hz.out with h | h
  · have h0 : ((s0.size : Int) == 0) = true := by simp [h]
    clear h
    go_wp2_with fail
    go_ret
    exact ⟨rfl, y4⟩
  · by_cases h' : s0.size = 0
    · have h0 : ((s0.size : Int) == 0) = true := by simp [h']
      clear h'
      go_wp2_with fail
      go_ret
      exact ⟨rfl, y4⟩
    · have h0 : ((s0.size : Int) == 0) = false := by simp [h']
      clear h'
      go_wp2_with fail
      go_ret
      exact ⟨rfl, y4⟩
namespace fnRangeRunes
open Go.ChangeShapes Go.WideShapes Go.ChangeAt Go.RowKit
open Go.ChangeMaps (open_string shut_string)
set_option maxRecDepth 100000 in
set_option linter.unusedVariables false in
theorem lifted (os : Os) (started : os.Started) (H : Type) (enc : TypeId × Value → H) (F : Stop.Interp) :
    ReturnsInHanded {} Try.checked os 10 .any ((Rows.OpenSpec.upto Rows.fnRangeRunesSpec).pre6 enc Try.prog Try.f10 Rows.fnRangeRunesUptoRow.domain false) (((Rows.OpenSpec.upto Rows.fnRangeRunesSpec).at F).post enc Try.prog Try.f10 false true false false) := by
  refine returnsInHanded_of_cond (C := Try.checked) (s := Rows.OpenSpec.upto Rows.fnRangeRunesSpec) (k := Rows.uptoSmall) rfl own started (by kernel_rfl) Try.func10
    (OpenSpec.witness (enc := enc) (C := Try.checked) (s := Rows.OpenSpec.upto Rows.fnRangeRunesSpec) (k := Rows.uptoSmall) rfl false ⟨#[], #[.string ⟨#[]⟩], []⟩ 8 (by kernel_rfl) (by kernel_rfl) (by kernel_rfl)
      (x := ([.lit (.string [])], [], [])) (by kernel_rfl) rfl (by kernel_rfl)) ?_
  intro W base args ds gs before hval0 hW _ hk _
  have hval : ∀ (j : Nat) t v, Try.f10.params[j]? = some t → args[j]? = some v → Value.okWide Try.prog W .any base t v := hval0
  have hW' := hW
  obtain ⟨p, q, hA0, hV, rfl, hfz, hnd⟩ := hW
  have hA : DataW.TrodAll enc Try.prog W 0 (fun _ => true) true Try.f10.params.toList args.toList ds p := hA0
  rw [Try.params10] at hA hval
  obtain ⟨v0, vs0, d0, ds0, p0, q0, hargs, rfl, rfl, h0, r0⟩ := trodAll_cons hA
  obtain ⟨rfl, rfl, rfl⟩ := trodAll_nil r0
  obtain rfl : args = #[v0] := by cases args; simp_all
  obtain ⟨rfl, rfl⟩ := trodVars_none hV
  have k0 := h0
  have lt0 : ∀ x ∈ p0, x.block < W.heap.size := by obtain ⟨m, hm⟩ := k0; exact DataW.trod_lt m _ _ _ hm
  obtain ⟨s0, rfl, rfl, rfl, w0⟩ := open_string Try.underlying9 (hval 0 9 v0 rfl rfl) h0
  have z0 : s0.size ≤ 1048576 := by have := bulk_str (H := H) s0; have hb := bulk_bound hk; simp only [Rows.uptoBulkAll, List.append_nil] at hb; omega
  clear hA0 hval0
  refine (fnRangeRunes_walk s0 W z0).mono fun e W' ⟨he, bel⟩ => ?_
  subst he
  exact ⟨_, rfl, _, _, _, [], _, [], hW', trodAll_mk1 (shut_bool Try.underlying4 _), (trodAll_cons_mk (shut_string Try.underlying9 w0) trodAll_mk0), rfl, bel.out.frame _, fun h => by cases h⟩
theorem said : Rows.FnRangeRunesUptoSaid :=
  OpenClaim.holds_of_cond 10 Try.f10 rfl rfl rfl rfl rfl rfl rfl ⟨rfl, rfl, rfl, rfl, rfl⟩ rfl rfl rfl rfl rfl (by kernel_rfl) Try.func10 (by kernel_rfl)
    (of_decide_eq_true (by kernel_rfl)) (by unfold Func.isWrapper; first | (rw [if_pos (by decide +kernel)]; kernel_rfl) | (rw [if_neg (by decide +kernel)]; exact ⟨rfl, rfl⟩))
    (fun os started H enc _ F => lifted os started H enc F)
end fnRangeRunes
end Go.Proofs.Ytmfdpmokphdbiaa
