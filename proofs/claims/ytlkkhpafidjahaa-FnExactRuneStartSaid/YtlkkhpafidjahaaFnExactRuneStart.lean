/- FnExactRuneStart: RuneStart tells of every byte what the reference tells. No condition. -/
import Derived.Test.YtlkkhpafidjahaaFrame
import Derived.Test.YtlkkhpafidjahaaStart
namespace Go.Proofs.Ytlkkhpafidjahaa
open Go.RowKit Go.Lib
set_option maxHeartbeats 400000 in
theorem fnExactRuneStart_walk (a0 : Int) (w : World) (b0 : 0 ≤ a0 ∧ a0 ≤ 255) :
    Calls Try.prog 9 #[.int .u8 a0] w fun e w' => e = .returned (.bool true) ∧ Nx w w' := by
  obtain ⟨h0, h1⟩ := b0
  obtain ⟨x, hx⟩ : ∃ x, startB a0 = x := ⟨_, rfl⟩
  have c1 := Lib.hid fun w => spec_start a0 w h0 h1
  have c2 := Lib.hid fun w => start_any a0 w h0 h1
  rw [hx] at c1 c2
  clear hx
  go_enter Try.func9, Try.ntmps9
  go_wp2_with (first | (go_at_call 20; refine (c1.out _).mono ?_; rintro e w' ⟨rfl, rfl⟩) | (go_at_call 21; refine (c2.out _).mono ?_; rintro e w' ⟨rfl, rfl⟩))
  all_goals (go_ret; exact ⟨by simp_all, Nx.refl _⟩)
namespace fnExactRuneStart
open Go.ChangeShapes Go.WideShapes Go.ChangeAt Go.RowKit
open Go.ChangeMaps (open_string shut_string)
set_option maxRecDepth 100000 in
set_option linter.unusedVariables false in
theorem lifted (os : Os) (started : os.Started) (H : Type) (enc : TypeId × Value → H) :
    ReturnsInHanded {} Try.checked os 9 .any (Rows.fnExactRuneStartSpec.pre6 enc Try.prog Try.f9 Rows.fnExactRuneStartRow.domain false) (Rows.fnExactRuneStartSpec.post enc Try.prog Try.f9 false true false false) := by
  refine returnsInHanded_of_change_sized (C := Try.checked) own started (by kernel_rfl) Try.func9
    (ChangeSpec.witness6 (enc := enc) (C := Try.checked) false ⟨#[], #[.int .u8 0], []⟩ 8 (by kernel_rfl) (by kernel_rfl) (by kernel_rfl) (by kernel_rfl)) ?_
  intro W base args ds gs before hval0 hW hcnd hsz0 _
  have hsz : (DataW.weightsEach Try.prog (Try.f9.params.toList ++ Rows.fnExactRuneStartSpec.plain.varTypes Try.prog) (ds ++ gs)).all (· ≤ reachBytes) = true := hsz0
  rw [Try.params9] at hsz
  have hval : ∀ (j : Nat) t v, Try.f9.params[j]? = some t → args[j]? = some v → Value.okWide Try.prog W .any base t v := hval0
  have hW' := hW
  obtain ⟨p, q, hA0, hV, rfl, hfz, hnd⟩ := hW
  have hA : DataW.TrodAll enc Try.prog W 0 (fun _ => true) true Try.f9.params.toList args.toList ds p := hA0
  rw [Try.params9] at hA hval
  obtain ⟨v0, vs0, d0, ds0, p0, q0, hargs, rfl, rfl, h0, r0⟩ := trodAll_cons hA
  obtain ⟨rfl, rfl, rfl⟩ := trodAll_nil r0
  obtain rfl : args = #[v0] := by cases args; simp_all
  obtain ⟨rfl, rfl⟩ := trodVars_none hV
  have k0 := h0
  have lt0 : ∀ x ∈ p0, x.block < W.heap.size := by obtain ⟨m, hm⟩ := k0; exact DataW.trod_lt m _ _ _ hm
  obtain ⟨a0, rfl, rfl, rfl, w0⟩ := open_int Try.underlying5 (hval 0 5 v0 rfl rfl) h0
  have b0 : 0 ≤ a0 ∧ a0 ≤ 255 := by simpa [Lit.wf, IntKind.min, IntKind.max, IntKind.signed, IntKind.bits] using w0
  clear hA0 hval0
  refine (fnExactRuneStart_walk a0 W b0).mono fun e W' ⟨he, bel⟩ => ?_
  subst he
  exact ⟨_, rfl, _, _, _, [], _, [], hW', trodAll_mk1 (shut_bool Try.underlying4 _), (trodAll_cons_mk (shut_int Try.underlying5 w0) trodAll_mk0), rfl, bel.out.frame _, fun h => by cases h⟩
theorem said : Rows.FnExactRuneStartSaid :=
  OpenClaim.holds_of_wide 9 Try.f9 rfl rfl rfl rfl rfl rfl rfl ⟨rfl, rfl, rfl, rfl, rfl⟩ rfl rfl rfl rfl rfl (by kernel_rfl) Try.func9 (by kernel_rfl)
    (of_decide_eq_true (by kernel_rfl)) (by unfold Func.isWrapper; first | (rw [if_pos (by decide +kernel)]; kernel_rfl) | (rw [if_neg (by decide +kernel)]; exact ⟨rfl, rfl⟩))
    (fun os started H enc _ => lifted os started H enc)
end fnExactRuneStart
end Go.Proofs.Ytlkkhpafidjahaa
