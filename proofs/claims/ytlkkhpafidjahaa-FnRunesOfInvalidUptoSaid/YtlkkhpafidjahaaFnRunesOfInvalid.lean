/- FnRunesOfInvalid: a string that is converted to runes gives the runes that are decoded from it one after the other, RuneError for each byte that begins no encoding. The condition: what is read is of bulk at most 1048576. -/
import Derived.Test.YtlkkhpafidjahaaFrame
import Derived.Test.YtlkkhpafidjahaaSteps
import Derived.Test.YtlkkhpafidjahaaConv
namespace Go.Proofs.Ytlkkhpafidjahaa
open Go.RowKit Go.Lib
set_option linter.unusedVariables false
set_option maxHeartbeats 400000 in
theorem fnRunesOfInvalid_walk (s0 : ByteArray) (w : World) (m0 : s0.size ≤ 1048576) :
    Calls Try.prog 5 #[.string s0] w fun e w' => e = .returned (.bool true) ∧ Nx w w' := by
  have hcv := fun W => run_str_bytes (P := Try.prog) 9 31 5 Try.underlying9 Try.underlying31 Try.underlying5 s0 W
  have hlen : (runesL s0.data.toList).length ≤ 1048576 := by have := runesL_len s0.data.toList; rw [size_list] at this; omega
  go_enter Try.func5, Try.ntmps5
  go_wp2_with fail
  refine (steps_any _ _ _ s0.data.toList _ (by_str_bytes _ _ _) (grownCap_ge _ _ _ _) (by omega)).mono ?_
  rintro e w1 ⟨A1, n1, c1, A2, n2, c2, A3, n3, c3, rfl, ho1, ho2, ho3, hn1⟩
  have hx1 := (nx_str_bytes 5 s0 w).trans hn1
  clear hcv
  go_wp2_with fail
  refine (runesOf_any s0 _ (by omega)).mono ?_
  rintro e w2 ⟨A4, n4, c4, rfl, ho4, hn2⟩
  go_wp2_with fail
  refine (same_runes _ _ _ _ _ _ (runesL s0.data.toList) (runesL s0.data.toList) _ ho4.sl (ho2.sl.next hn2) (by rw [ho4.len]; omega) (by rw [ho2.len]; omega)).mono ?_
  rintro e w3 ⟨rfl, hn3⟩
  rw [eqB_refl]
  go_wp2
  go_ret
  exact ⟨rfl, (hx1.trans hn2).trans hn3⟩
namespace fnRunesOfInvalid
open Go.ChangeShapes Go.WideShapes Go.ChangeAt Go.RowKit
open Go.ChangeMaps (open_string shut_string)
set_option maxRecDepth 100000 in
set_option linter.unusedVariables false in
theorem lifted (os : Os) (started : os.Started) (H : Type) (enc : TypeId × Value → H) (F : Stop.Interp) :
    ReturnsInHanded {} Try.checked os 5 .any ((Rows.OpenSpec.upto Rows.fnRunesOfInvalidSpec).pre6 enc Try.prog Try.f5 Rows.fnRunesOfInvalidUptoRow.domain false) (((Rows.OpenSpec.upto Rows.fnRunesOfInvalidSpec).at F).post enc Try.prog Try.f5 false true false false) := by
  refine returnsInHanded_of_cond (C := Try.checked) (s := Rows.OpenSpec.upto Rows.fnRunesOfInvalidSpec) (k := Rows.uptoSmall) rfl own started (by kernel_rfl) Try.func5
    (OpenSpec.witness (enc := enc) (C := Try.checked) (s := Rows.OpenSpec.upto Rows.fnRunesOfInvalidSpec) (k := Rows.uptoSmall) rfl false ⟨#[], #[.string ⟨#[]⟩], []⟩ 8 (by kernel_rfl) (by kernel_rfl) (by kernel_rfl)
      (x := ([.lit (.string [])], [], [])) (by kernel_rfl) rfl (by kernel_rfl)) ?_
  intro W base args ds gs before hval0 hW _ hk _
  have hval : ∀ (j : Nat) t v, Try.f5.params[j]? = some t → args[j]? = some v → Value.okWide Try.prog W .any base t v := hval0
  have hW' := hW
  obtain ⟨p, q, hA0, hV, rfl, hfz, hnd⟩ := hW
  have hA : DataW.TrodAll enc Try.prog W 0 (fun _ => true) true Try.f5.params.toList args.toList ds p := hA0
  rw [Try.params5] at hA hval
  obtain ⟨v0, vs0, d0, ds0, p0, q0, hargs, rfl, rfl, h0, r0⟩ := trodAll_cons hA
  obtain ⟨rfl, rfl, rfl⟩ := trodAll_nil r0
  obtain rfl : args = #[v0] := by cases args; simp_all
  obtain ⟨rfl, rfl⟩ := trodVars_none hV
  have k0 := h0
  have lt0 : ∀ x ∈ p0, x.block < W.heap.size := by obtain ⟨m, hm⟩ := k0; exact DataW.trod_lt m _ _ _ hm
  obtain ⟨s0, rfl, rfl, rfl, w0⟩ := open_string Try.underlying9 (hval 0 9 v0 rfl rfl) h0
  have z0 : s0.size ≤ 1048576 := by have := bulk_str (H := H) s0; have hb := bulk_bound hk; simp only [Rows.uptoBulkAll, List.append_nil] at hb; omega
  clear hA0 hval0
  refine (fnRunesOfInvalid_walk s0 W z0).mono fun e W' ⟨he, bel⟩ => ?_
  subst he
  exact ⟨_, rfl, _, _, _, [], _, [], hW', trodAll_mk1 (shut_bool Try.underlying4 _), (trodAll_cons_mk (shut_string Try.underlying9 w0) trodAll_mk0), rfl, bel.out.frame _, fun h => by cases h⟩
theorem said : Rows.FnRunesOfInvalidUptoSaid :=
  OpenClaim.holds_of_cond 5 Try.f5 rfl rfl rfl rfl rfl rfl rfl ⟨rfl, rfl, rfl, rfl, rfl⟩ rfl rfl rfl rfl rfl (by kernel_rfl) Try.func5 (by kernel_rfl)
    (of_decide_eq_true (by kernel_rfl)) (by unfold Func.isWrapper; first | (rw [if_pos (by decide +kernel)]; kernel_rfl) | (rw [if_neg (by decide +kernel)]; exact ⟨rfl, rfl⟩))
    (fun os started H enc _ F => lifted os started H enc F)
end fnRunesOfInvalid
end Go.Proofs.Ytlkkhpafidjahaa
