/- FnStringOfRune: a rune that is converted to a string is its encoding, or that of RuneError if it is out of range. No condition. -/
import Derived.Test.YtlkkhpafidjahaaFrame
import Derived.Test.YtlkkhpafidjahaaText
import Derived.Test.YtlkkhpafidjahaaConv
namespace Go.Proofs.Ytlkkhpafidjahaa
open Go.RowKit Go.Lib
theorem text_one (r : Int) : text [r] = encodeRune r := by simp [text]
theorem text_lit (r : Int) (w : World) : Calls Try.prog 16 #[.slice (some ⟨w.heap.size, 0, none⟩) 1 1] (w.alloc (.cells #[.int .i32 r] 21)) fun e w' => e = .returned (.string (strOf (encodeRune r))) ∧ Nx w w' := by
  refine (text_any _ _ _ [r] _ (Own.new .i32 21 w.heap.size w (Nat.le_refl _) [r] _ 1 rfl rfl (by simp [maxLen])).sl (by omega)).mono ?_
  rintro e w' ⟨rfl, h⟩
  rw [text_one]
  exact ⟨rfl, ((Nx.refl w).alloc _).trans h⟩
set_option maxHeartbeats 400000 in
theorem fnStringOfRune_walk (a0 : Int) (w : World) (_b0 : -2147483648 ≤ a0 ∧ a0 ≤ 2147483647) :
    Calls Try.prog 8 #[.int .i32 a0] w fun e w' => e = .returned (.bool true) ∧ Nx w w' := by
  by_cases hs : surB a0 = true
  · go_enter Try.func8, Try.ntmps8
    go_wp2_with (go_at_call 18; refine (surrogate_any _ _).mono ?_; rintro e w' ⟨rfl, rfl⟩)
    go_ret
    exact ⟨rfl, Nx.refl _⟩
  · have hs' : surB a0 = false := by simpa using hs
    clear hs
    go_enter Try.func8, Try.ntmps8
    go_wp2_with (first | (go_at_call 18; refine (surrogate_any _ _).mono ?_; rintro e w' ⟨rfl, rfl⟩) | (go_at_call 19; refine (stringOfRune_any _ _).mono ?_; rintro e w' ⟨rfl, rfl⟩) | (go_at_call 16; refine (text_lit _ _).mono ?_; rintro e w1 ⟨rfl, hnx⟩))
    go_ret
    exact ⟨by simp, hnx⟩
namespace fnStringOfRune
open Go.ChangeShapes Go.WideShapes Go.ChangeAt Go.RowKit
open Go.ChangeMaps (open_string shut_string)
set_option maxRecDepth 100000 in
set_option linter.unusedVariables false in
theorem lifted (os : Os) (started : os.Started) (H : Type) (enc : TypeId × Value → H) :
    ReturnsInHanded {} Try.checked os 8 .any (Rows.fnStringOfRuneSpec.pre6 enc Try.prog Try.f8 Rows.fnStringOfRuneRow.domain false) (Rows.fnStringOfRuneSpec.post enc Try.prog Try.f8 false true false false) := by
  refine returnsInHanded_of_change_sized (C := Try.checked) own started (by kernel_rfl) Try.func8
    (ChangeSpec.witness6 (enc := enc) (C := Try.checked) false ⟨#[], #[.int .i32 0], []⟩ 8 (by kernel_rfl) (by kernel_rfl) (by kernel_rfl) (by kernel_rfl)) ?_
  intro W base args ds gs before hval0 hW hcnd hsz0 _
  have hsz : (DataW.weightsEach Try.prog (Try.f8.params.toList ++ Rows.fnStringOfRuneSpec.plain.varTypes Try.prog) (ds ++ gs)).all (· ≤ reachBytes) = true := hsz0
  rw [Try.params8] at hsz
  have hval : ∀ (j : Nat) t v, Try.f8.params[j]? = some t → args[j]? = some v → Value.okWide Try.prog W .any base t v := hval0
  have hW' := hW
  obtain ⟨p, q, hA0, hV, rfl, hfz, hnd⟩ := hW
  have hA : DataW.TrodAll enc Try.prog W 0 (fun _ => true) true Try.f8.params.toList args.toList ds p := hA0
  rw [Try.params8] at hA hval
  obtain ⟨v0, vs0, d0, ds0, p0, q0, hargs, rfl, rfl, h0, r0⟩ := trodAll_cons hA
  obtain ⟨rfl, rfl, rfl⟩ := trodAll_nil r0
  obtain rfl : args = #[v0] := by cases args; simp_all
  obtain ⟨rfl, rfl⟩ := trodVars_none hV
  have k0 := h0
  have lt0 : ∀ x ∈ p0, x.block < W.heap.size := by obtain ⟨m, hm⟩ := k0; exact DataW.trod_lt m _ _ _ hm
  obtain ⟨a0, rfl, rfl, rfl, w0⟩ := open_int Try.underlying21 (hval 0 21 v0 rfl rfl) h0
  have b0 : -2147483648 ≤ a0 ∧ a0 ≤ 2147483647 := by simpa [Lit.wf, IntKind.min, IntKind.max, IntKind.signed, IntKind.bits] using w0
  clear hA0 hval0
  refine (fnStringOfRune_walk a0 W b0).mono fun e W' ⟨he, bel⟩ => ?_
  subst he
  exact ⟨_, rfl, _, _, _, [], _, [], hW', trodAll_mk1 (shut_bool Try.underlying4 _), (trodAll_cons_mk (shut_int Try.underlying21 w0) trodAll_mk0), rfl, bel.out.frame _, fun h => by cases h⟩
theorem said : Rows.FnStringOfRuneSaid :=
  OpenClaim.holds_of_wide 8 Try.f8 rfl rfl rfl rfl rfl rfl rfl ⟨rfl, rfl, rfl, rfl, rfl⟩ rfl rfl rfl rfl rfl (by kernel_rfl) Try.func8 (by kernel_rfl)
    (of_decide_eq_true (by kernel_rfl)) (by unfold Func.isWrapper; first | (rw [if_pos (by decide +kernel)]; kernel_rfl) | (rw [if_neg (by decide +kernel)]; exact ⟨rfl, rfl⟩))
    (fun os started H enc _ => lifted os started H enc)
end fnStringOfRune
end Go.Proofs.Ytlkkhpafidjahaa
