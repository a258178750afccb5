/- FnToValidTells: a string is valid just if nothing is taken out of it when it is made valid; one that is not valid becomes shorter then. The condition: what is read is of bulk at most 1048576; the tables are those that the program lays. -/
import Derived.Test.YtpijokiagkhdeaaDoorFrame
import Derived.Test.YtpijokiagkhdeaaDoorToValid
import Derived.Test.YtpijokiagkhdeaaDoorSpecValid
import Derived.Test.YtpijokiagkhdeaaDoorCount
namespace Go.Proofs.YtpijokiagkhdeaaDoor
open Go.RowKit Go.Lib
set_option linter.unusedVariables false
set_option maxRecDepth 100000 in
set_option maxHeartbeats 1000000 in
theorem fnToValidTells_walk (s0 : ByteArray) (w : World) (hT : Tabs w) (m0 : s0.size ≤ 1048576) :
    Calls Tryd.prog 13 #[.string s0] w fun e w' => e = .returned (.bool true) ∧ Nx w w' := by
  obtain ⟨V, hV⟩ : ∃ V, Hid (validB s0.data.toList = V) := ⟨_, rfl⟩
  obtain ⟨O, hO⟩ : ∃ O, Hid (toV [] false s0.data.toList = O) := ⟨_, rfl⟩
  have hn := toV_none s0.data.toList false
  rw [hO.out, size_list] at hn
  obtain ⟨n1, n2, n3⟩ := hn
  obtain ⟨X, hX⟩ : ∃ X, Hid (strOf O = X) := ⟨_, rfl⟩
  have hXd : Hid (X.data.toList = O) := by show _ = _; rw [← hX.out, strOf_data]
  have hXs : X.size = O.length := by rw [← hX.out, strOf_size]
  have c0 := Lib.hid fun W (h : Tabs W) => toValid_any s0 ⟨#[]⟩ W h (by show s0.size + 0 ≤ _; omega) (by show (toV [] false s0.data.toList).length ≤ _; rw [hO.out]; omega)
  have hO' : toV (ByteArray.mk #[]).data.toList false s0.data.toList = O := hO.out
  rw [hO', hX.out] at c0
  obtain ⟨K, hK⟩ : ∃ K, Hid (cnt O = K) := ⟨_, rfl⟩
  obtain ⟨J, hJ⟩ : ∃ K, Hid (cnt s0.data.toList = K) := ⟨_, rfl⟩
  rw [hK.out, hJ.out] at n2
  have N3 : Hid (V = false → X.size < s0.size ∧ K < J) := by
    intro h
    have := n3 (by rw [hV.out]; exact h)
    rw [hK.out, hJ.out] at this
    rw [hXs]
    exact this
  have hJb : J ≤ 1048576 := by have := cnt_le s0.data.toList; rw [hJ.out, size_list] at this; omega
  have hXb : X.size ≤ 1048576 := by omega
  clear n3 hO' hXs n1
  go_enter Tryd.func13, Tryd.ntmps13
  go_wp2_with fail
  refine (c0.out _ hT).mono ?_
  rintro e w1 ⟨rfl, x1⟩
  clear c0
  go_wp2_with fail
  refine (specValidS_any s0 _ (by omega)).mono ?_
  rw [hV.out]
  rintro e w2 ⟨rfl, x2⟩
  have y2 := x1.trans x2
  cases hVV : V with
  | true =>
    have he : X = s0 := by rw [← hX.out, ← hO.out, toV_valid _ (by rw [hV.out]; exact hVV), strOf_list]
    subst he
    have hxx : (X.toList == X.toList) = true := by simp
    clear n2
    go_wp2_with fail
    refine (validS_any X _ (hT.next y2) (by omega)).mono ?_
    rw [hV.out, hVV]
    rintro e w3 ⟨rfl, x3⟩
    go_wp2_with fail
    go_ret
    exact ⟨rfl, y2.trans x3⟩
  | false =>
    obtain ⟨a1, a2⟩ := N3.out hVV
    clear n2
    go_wp2_with fail
    refine (validS_any s0 _ (hT.next y2) (by omega)).mono ?_
    rw [hV.out, hVV]
    rintro e w3 ⟨rfl, x3⟩
    have y3 := y2.trans x3
    go_wp2_with fail
    refine (countS_any X _ (by omega)).mono ?_
    rw [hXd.out, hK.out]
    rintro e w4 ⟨rfl, x4⟩
    go_wp2_with fail
    refine (countS_any s0 _ (by omega)).mono ?_
    rw [hJ.out]
    rintro e w5 ⟨rfl, x5⟩
    go_wp2_with fail
    go_ret
    exact ⟨rfl, (y3.trans x4).trans x5⟩
namespace fnToValidTells
open Go.ChangeShapes Go.WideShapes Go.ChangeAt Go.RowKit
open Go.ChangeMaps (open_string shut_string)
set_option maxRecDepth 100000 in
set_option linter.unusedVariables false in
theorem laid_met (os : Os) : laidMet Tryd.prog Rows.fnToValidTellsUptoRow.laid ((laidWorld os).forCall (fun _ _ => 0) ⟨#[], #[.string ⟨#[]⟩], []⟩).memory :=
  laidMet_of_run' 8 (by kernel_rfl) (by kernel_rfl)
theorem reads (os : Os) {H : Type} (enc : TypeId × Value → H) : ∃ places, DataW.whole enc Tryd.prog ((laidWorld os).forCall (fun _ _ => 0) ⟨#[], #[.string ⟨#[]⟩], []⟩).memory Tryd.f13.params.toList Rows.fnToValidTellsSpec.vars false (#[.string ⟨#[]⟩] : Array Value).toList 8 = some ([.lit (.string [])], [], places) :=
  ⟨[], by kernel_rfl⟩
set_option maxRecDepth 100000 in
set_option linter.unusedVariables false in
theorem lifted (os : Os) (started : os.Started) (H : Type) (enc : TypeId × Value → H) (F : Stop.Interp) :
    ReturnsInHanded {} Tryd.checked os 13 .any ((Rows.OpenSpec.upto Rows.fnToValidTellsSpec).preRow enc Tryd.prog Tryd.f13 Rows.fnToValidTellsUptoRow.domain false Rows.fnToValidTellsUptoRow.laid) (((Rows.OpenSpec.upto Rows.fnToValidTellsSpec).at F).post enc Tryd.prog Tryd.f13 false true false false) := by
  obtain ⟨places, hx⟩ := reads os enc
  refine returnsInHanded_of_row (C := Tryd.checked) (s := (Rows.OpenSpec.upto Rows.fnToValidTellsSpec)) own started (by kernel_rfl) Tryd.func13
    (witness_row_at (enc := enc) (C := Tryd.checked) false (laidWorld os) #[.string ⟨#[]⟩] rfl (by kernel_rfl) (by kernel_rfl) (by kernel_rfl)
      (OpenSpec.preRow_of_cond 8 hx (by kernel_rfl) (fun k hk => by cases hk; kernel_rfl) (by kernel_rfl) (laid_met os))) ?_
  intro W base args ds gs before hval0 hW _ hkk hsz0 hL _ _
  have hk := hkk _ rfl
  have hval : ∀ (j : Nat) t v, Tryd.f13.params[j]? = some t → args[j]? = some v → Value.okWide Tryd.prog W .any base t v := hval0
  have hW' := hW
  obtain ⟨p, q, hA0, hV, rfl, hfz, hnd⟩ := hW
  have hA : DataW.TrodAll enc Tryd.prog W 0 (fun _ => true) true Tryd.f13.params.toList args.toList ds p := hA0
  rw [Tryd.params13] at hA hval
  obtain ⟨v0, vs0, d0, ds0, p0, q0, hargs, rfl, rfl, h0, r0⟩ := trodAll_cons hA
  obtain ⟨rfl, rfl, rfl⟩ := trodAll_nil r0
  obtain rfl : args = #[v0] := by cases args; simp_all
  obtain ⟨rfl, rfl⟩ := trodVars_none hV
  have k0 := h0
  have lt0 : ∀ x ∈ p0, x.block < W.heap.size := by obtain ⟨m, hm⟩ := k0; exact DataW.trod_lt m _ _ _ hm
  obtain ⟨s0, rfl, rfl, rfl, w0⟩ := open_string Tryd.underlying9 (hval 0 9 v0 rfl rfl) h0
  have z0 : s0.size ≤ 1048576 := by have := bulk_str (H := H) s0; have hb := bulk_bound hk; simp only [Rows.uptoBulkAll, List.append_nil] at hb; omega
  clear hA0 hval0
  refine (fnToValidTells_walk s0 W (tabs hL) z0).mono fun e W' ⟨he, bel⟩ => ?_
  subst he
  exact ⟨_, rfl, _, _, _, [], _, [], hW', trodAll_mk1 (shut_bool Tryd.underlying4 _), (trodAll_cons_mk (shut_string Tryd.underlying9 w0) trodAll_mk0), rfl, bel.out.frame _, fun h => by cases h⟩
theorem row : Rows.FnToValidTellsUptoSaid :=
  OpenClaim.holds_of_cond 13 Tryd.f13 rfl rfl rfl rfl rfl rfl rfl ⟨rfl, rfl, rfl, rfl, rfl⟩ rfl rfl rfl rfl rfl (by kernel_rfl) Tryd.func13 (by kernel_rfl)
    (of_decide_eq_true (by kernel_rfl)) (by unfold Func.isWrapper; first | (rw [if_pos (by decide +kernel)]; kernel_rfl) | (rw [if_neg (by decide +kernel)]; exact ⟨rfl, rfl⟩))
    (fun os started H enc _ F => by rw [OpenClaim.pre_eq_preRow]; exact lifted os started H enc F)
theorem plain (f : FuncId) (fn : Func) (hf : Tryd.pinned.checked.prog.funcNamed Rows.fnToValidTellsUptoRow.func = some f) (hfn : Tryd.pinned.checked.prog.funcs[f]? = some fn) :
    false = Tryd.pinned.checked.prog.looks [] ∧ ∀ (j : Nat) t, fn.params[j]? = some t → Tryd.pinned.checked.prog.wantsStandIn t = false := by
  obtain rfl : f = 13 := Option.some.inj ((show Tryd.prog.funcNamed Rows.fnToValidTellsUptoRow.func = some 13 by kernel_rfl).symm.trans hf) |>.symm
  obtain rfl : fn = Tryd.f13 := (Option.some.inj (Tryd.func13.symm.trans hfn)).symm
  refine ⟨by kernel_rfl, fun j t ht => ?_⟩
  rw [Tryd.params13] at ht
  have hm := Array.mem_of_getElem? ht
  have hor : t = 9 := by simp at hm; omega
  subst hor
  exact (show Tryd.prog.wantsStandIn 9 = false by kernel_rfl)
theorem said : Rows.FnToValidTellsUptoCardSaid :=
  Claim7.holds_tied_plain_at .later [] _ _ _ _ row (fun _ h => by cases h) (by kernel_rfl) (fun _ h => by cases h) fnToValidTellsUpto_row_tie rfl ⟨rfl, rfl⟩ (by kernel_rfl) rfl plain (by kernel_rfl)
end fnToValidTells
end Go.Proofs.YtpijokiagkhdeaaDoor
