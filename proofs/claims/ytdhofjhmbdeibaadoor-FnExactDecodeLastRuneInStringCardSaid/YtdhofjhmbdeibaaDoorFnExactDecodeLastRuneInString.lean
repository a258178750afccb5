/- FnExactDecodeLastRuneInString: DecodeLastRuneInString tells of every string of at most 2^20 bytes what the reference tells. The tables are those that the program lays. -/
import Derived.Test.YtdhofjhmbdeibaaDoorFrame
import Derived.Test.YtdhofjhmbdeibaaDoorDecodeU
import Derived.Test.YtdhofjhmbdeibaaDoorSpecLast
namespace Go.Proofs.YtdhofjhmbdeibaaDoor
open Go.RowKit Go.Lib
set_option linter.unusedVariables false
set_option maxHeartbeats 1000000 in
theorem fnExactDecodeLastRuneInString_walk (s0 : ByteArray) (w : World) (hT : Tabs w) (m0 : s0.size ≤ 140737488351232) :
    Calls Tryd.prog 7 #[.string s0] w fun e w' => e = .returned (.bool true) ∧ Nx w w' := by
  by_cases hb : 1048576 < s0.size
  · go_enter Tryd.func7, Tryd.ntmps7
    go_wp2_with fail
    go_ret
    exact ⟨rfl, Nx.refl _⟩
  · obtain ⟨R, hR⟩ : ∃ K, Hid ((decodeLastL s0.data.toList).1 = K) := ⟨_, rfl⟩
    obtain ⟨K, hK⟩ : ∃ K, Hid ((decodeLastL s0.data.toList).2 = K) := ⟨_, rfl⟩
    have hRR : ((R : Int) != (R : Int)) = false := by simp
    have hKK : ((K : Int) != (K : Int)) = false := by simp
    go_enter Tryd.func7, Tryd.ntmps7
    go_wp2_with fail
    refine (specLastS_any s0 _ (by omega)).mono ?_
    rw [hR.out, hK.out]
    rintro e w1 ⟨rfl, x1⟩
    go_wp2_with fail
    refine (lastS_any s0 _ (hT.next x1) (by omega)).mono ?_
    rw [hR.out, hK.out]
    rintro e w2 ⟨rfl, x2⟩
    go_wp2_with fail
    go_ret
    exact ⟨rfl, x1.trans x2⟩
namespace fnExactDecodeLastRuneInString
open Go.ChangeShapes Go.WideShapes Go.ChangeAt Go.RowKit
open Go.ChangeMaps (open_string shut_string)
set_option maxRecDepth 100000 in
set_option linter.unusedVariables false in
theorem laid_met (os : Os) : laidMet Tryd.prog Rows.fnExactDecodeLastRuneInStringRow.laid ((laidWorld os).forCall (fun _ _ => 0) ⟨#[], #[.string ⟨#[]⟩], []⟩).memory :=
  laidMet_of_run' 8 (by kernel_rfl) (by kernel_rfl)
theorem reads (os : Os) {H : Type} (enc : TypeId × Value → H) : ∃ places, DataW.whole enc Tryd.prog ((laidWorld os).forCall (fun _ _ => 0) ⟨#[], #[.string ⟨#[]⟩], []⟩).memory Tryd.f7.params.toList Rows.fnExactDecodeLastRuneInStringSpec.vars false (#[.string ⟨#[]⟩] : Array Value).toList 8 = some ([.lit (.string [])], [], places) :=
  ⟨[], by kernel_rfl⟩
set_option maxRecDepth 100000 in
set_option linter.unusedVariables false in
theorem lifted (os : Os) (started : os.Started) (H : Type) (enc : TypeId × Value → H) (F : Stop.Interp) :
    ReturnsInHanded {} Tryd.checked os 7 .any ((OpenSpec.ofChange Rows.fnExactDecodeLastRuneInStringSpec).preRow enc Tryd.prog Tryd.f7 Rows.fnExactDecodeLastRuneInStringRow.domain false Rows.fnExactDecodeLastRuneInStringRow.laid) (((OpenSpec.ofChange Rows.fnExactDecodeLastRuneInStringSpec).at F).post enc Tryd.prog Tryd.f7 false true false false) := by
  obtain ⟨places, hx⟩ := reads os enc
  refine returnsInHanded_of_row (C := Tryd.checked) (s := (OpenSpec.ofChange Rows.fnExactDecodeLastRuneInStringSpec)) own started (by kernel_rfl) Tryd.func7
    (witness_row_at (enc := enc) (C := Tryd.checked) false (laidWorld os) #[.string ⟨#[]⟩] rfl (by kernel_rfl) (by kernel_rfl) (by kernel_rfl)
      (OpenSpec.preRow_of_cond 8 hx (by kernel_rfl) (fun k hk => by cases hk) (by kernel_rfl) (laid_met os))) ?_
  intro W base args ds gs before hval0 hW _ hkk hsz0 hL _ _
  have hsz : (DataW.weightsEach Tryd.prog (Tryd.f7.params.toList ++ (OpenSpec.ofChange Rows.fnExactDecodeLastRuneInStringSpec).bare.plain.varTypes Tryd.prog) (ds ++ gs)).all (· ≤ reachBytes) = true := hsz0
  rw [Tryd.params7] at hsz
  have hval : ∀ (j : Nat) t v, Tryd.f7.params[j]? = some t → args[j]? = some v → Value.okWide Tryd.prog W .any base t v := hval0
  have hW' := hW
  obtain ⟨p, q, hA0, hV, rfl, hfz, hnd⟩ := hW
  have hA : DataW.TrodAll enc Tryd.prog W 0 (fun _ => true) true Tryd.f7.params.toList args.toList ds p := hA0
  rw [Tryd.params7] at hA hval
  obtain ⟨v0, vs0, d0, ds0, p0, q0, hargs, rfl, rfl, h0, r0⟩ := trodAll_cons hA
  obtain ⟨rfl, rfl, rfl⟩ := trodAll_nil r0
  obtain rfl : args = #[v0] := by cases args; simp_all
  obtain ⟨rfl, rfl⟩ := trodVars_none hV
  have k0 := h0
  have lt0 : ∀ x ∈ p0, x.block < W.heap.size := by obtain ⟨m, hm⟩ := k0; exact DataW.trod_lt m _ _ _ hm
  obtain ⟨s0, rfl, rfl, rfl, w0⟩ := open_string Tryd.underlying9 (hval 0 9 v0 rfl rfl) h0
  have z0 : s0.size ≤ 140737488351232 := str_size (j := 0) (t := 9) hsz (by rfl) rfl
  clear hA0 hval0
  refine (fnExactDecodeLastRuneInString_walk s0 W (tabs hL) z0).mono fun e W' ⟨he, bel⟩ => ?_
  subst he
  exact ⟨_, rfl, _, _, _, [], _, [], hW', trodAll_mk1 (shut_bool Tryd.underlying4 _), (trodAll_cons_mk (shut_string Tryd.underlying9 w0) trodAll_mk0), rfl, bel.out.frame _, fun h => by cases h⟩
theorem row : Rows.FnExactDecodeLastRuneInStringSaid :=
  OpenClaim.holds_of_cond 7 Tryd.f7 rfl rfl rfl rfl rfl rfl rfl ⟨rfl, rfl, rfl, rfl, rfl⟩ rfl rfl rfl rfl rfl (by kernel_rfl) Tryd.func7 (by kernel_rfl)
    (of_decide_eq_true (by kernel_rfl)) (by unfold Func.isWrapper; first | (rw [if_pos (by decide +kernel)]; kernel_rfl) | (rw [if_neg (by decide +kernel)]; exact ⟨rfl, rfl⟩))
    (fun os started H enc _ F => by rw [OpenClaim.pre_eq_preRow]; exact lifted os started H enc F)
theorem plain (f : FuncId) (fn : Func) (hf : Tryd.pinned.checked.prog.funcNamed Rows.fnExactDecodeLastRuneInStringRow.func = some f) (hfn : Tryd.pinned.checked.prog.funcs[f]? = some fn) :
    false = Tryd.pinned.checked.prog.looks [] ∧ ∀ (j : Nat) t, fn.params[j]? = some t → Tryd.pinned.checked.prog.wantsStandIn t = false := by
  obtain rfl : f = 7 := Option.some.inj ((show Tryd.prog.funcNamed Rows.fnExactDecodeLastRuneInStringRow.func = some 7 by kernel_rfl).symm.trans hf) |>.symm
  obtain rfl : fn = Tryd.f7 := (Option.some.inj (Tryd.func7.symm.trans hfn)).symm
  refine ⟨by kernel_rfl, fun j t ht => ?_⟩
  rw [Tryd.params7] at ht
  have hm := Array.mem_of_getElem? ht
  have hor : t = 9 := by simp at hm; omega
  subst hor
  exact (show Tryd.prog.wantsStandIn 9 = false by kernel_rfl)
theorem said : Rows.FnExactDecodeLastRuneInStringCardSaid :=
  Claim7.holds_tied_plain_at .later [] _ _ _ _ row (fun _ h => by cases h) (by kernel_rfl) (fun _ h => by cases h) fnExactDecodeLastRuneInString_row_tie rfl ⟨rfl, rfl⟩ (by kernel_rfl) rfl plain (by kernel_rfl)
end fnExactDecodeLastRuneInString
end Go.Proofs.YtdhofjhmbdeibaaDoor
