/- FnToValidGood: if the replacement is valid, so is the result; and a valid string stays as it is. The condition: what is read is of bulk at most 1048576; the tables are those that the program lays. -/
import Derived.Test.YtpijokiagkhdeaaDoorFrame
import Derived.Test.YtpijokiagkhdeaaDoorToValid
import Derived.Test.YtpijokiagkhdeaaDoorSpecValid
namespace Go.Proofs.YtpijokiagkhdeaaDoor
open Go.RowKit Go.Lib
set_option linter.unusedVariables false
set_option maxRecDepth 100000 in
set_option maxHeartbeats 1000000 in
theorem fnToValidGood_walk (s0 s1 : ByteArray) (w : World) (hT : Tabs w) (m0 : s0.size ≤ 1048576) (m1 : s1.size ≤ 1048576) (_hu : s0.size + s1.size ≤ 1048576) :
    Calls Tryd.prog 9 #[.string s0, .string s1] w fun e w' => e = .returned (.bool true) ∧ Nx w w' := by
  obtain ⟨V, hV⟩ : ∃ V, Hid (validB s0.data.toList = V) := ⟨_, rfl⟩
  obtain ⟨U, hU⟩ : ∃ V, Hid (validB s1.data.toList = V) := ⟨_, rfl⟩
  obtain ⟨O, hO⟩ : ∃ O, Hid (toV s1.data.toList false s0.data.toList = O) := ⟨_, rfl⟩
  have hOl : O.length ≤ 1099512676352 := by rw [← hO.out]; exact toV_small (by rw [size_list]; exact m0) (by rw [size_list]; exact m1) false
  obtain ⟨X, hX⟩ : ∃ X, Hid (strOf O = X) := ⟨_, rfl⟩
  have hXd : Hid (X.data.toList = O) := by show _ = _; rw [← hX.out, strOf_data]
  have hXs : X.size ≤ 1099512676352 := by rw [← hX.out, strOf_size]; exact hOl
  have c0 := Lib.hid fun W (h : Tabs W) => toValid_any s0 s1 W h (by omega) (by rw [hO.out]; omega)
  rw [hO.out, hX.out] at c0
  go_enter Tryd.func9, Tryd.ntmps9
  go_wp2_with fail
  refine (c0.out _ hT).mono ?_
  rintro e w1 ⟨rfl, x1⟩
  clear c0
  go_wp2_with fail
  refine (specValidS_any s1 _ (by omega)).mono ?_
  rw [hU.out]
  rintro e w2 ⟨rfl, x2⟩
  have y2 := x1.trans x2
  cases hUU : U with
  | true =>
    have hOv : Hid (validB O = true) := by show _ = _; rw [← hO.out]; exact toV_ok (by rw [hU.out]; exact hUU) _ _
    go_wp2_with fail
    refine (validS_any X _ (hT.next y2) (by omega)).mono ?_
    rw [hXd.out, hOv.out]
    rintro e w3 ⟨rfl, x3⟩
    have y3 := y2.trans x3
    go_wp2_with fail
    refine (specValidS_any s0 _ (by omega)).mono ?_
    rw [hV.out]
    rintro e w5 ⟨rfl, x5⟩
    have y5 := (y3).trans x5
    cases hVV : V with
    | false =>
      go_wp2_with fail
      go_ret
      exact ⟨rfl, y5⟩
    | true =>
      have he : X = s0 := by rw [← hX.out, ← hO.out, toV_valid _ (by rw [hV.out]; exact hVV), strOf_list]
      subst he
      have hxx : (X.toList == X.toList) = true := by simp
      go_wp2_with fail
      go_ret
      exact ⟨rfl, y5⟩
  | false =>
    go_wp2_with fail
    refine (specValidS_any s0 _ (by omega)).mono ?_
    rw [hV.out]
    rintro e w5 ⟨rfl, x5⟩
    have y5 := (y2).trans x5
    cases hVV : V with
    | false =>
      go_wp2_with fail
      go_ret
      exact ⟨rfl, y5⟩
    | true =>
      have he : X = s0 := by rw [← hX.out, ← hO.out, toV_valid _ (by rw [hV.out]; exact hVV), strOf_list]
      subst he
      have hxx : (X.toList == X.toList) = true := by simp
      go_wp2_with fail
      go_ret
      exact ⟨rfl, y5⟩
namespace fnToValidGood
open Go.ChangeShapes Go.WideShapes Go.ChangeAt Go.RowKit
open Go.ChangeMaps (open_string shut_string)
set_option maxRecDepth 100000 in
set_option linter.unusedVariables false in
theorem laid_met (os : Os) : laidMet Tryd.prog Rows.fnToValidGoodUptoRow.laid ((laidWorld os).forCall (fun _ _ => 0) ⟨#[], #[.string ⟨#[]⟩, .string ⟨#[]⟩], []⟩).memory :=
  laidMet_of_run' 8 (by kernel_rfl) (by kernel_rfl)
theorem reads (os : Os) {H : Type} (enc : TypeId × Value → H) : ∃ places, DataW.whole enc Tryd.prog ((laidWorld os).forCall (fun _ _ => 0) ⟨#[], #[.string ⟨#[]⟩, .string ⟨#[]⟩], []⟩).memory Tryd.f9.params.toList Rows.fnToValidGoodSpec.vars false (#[.string ⟨#[]⟩, .string ⟨#[]⟩] : Array Value).toList 8 = some ([.lit (.string []), .lit (.string [])], [], places) :=
  ⟨[], by kernel_rfl⟩
set_option maxRecDepth 100000 in
set_option linter.unusedVariables false in
theorem lifted (os : Os) (started : os.Started) (H : Type) (enc : TypeId × Value → H) (F : Stop.Interp) :
    ReturnsInHanded {} Tryd.checked os 9 .any ((Rows.OpenSpec.upto Rows.fnToValidGoodSpec).preRow enc Tryd.prog Tryd.f9 Rows.fnToValidGoodUptoRow.domain false Rows.fnToValidGoodUptoRow.laid) (((Rows.OpenSpec.upto Rows.fnToValidGoodSpec).at F).post enc Tryd.prog Tryd.f9 false true false false) := by
  obtain ⟨places, hx⟩ := reads os enc
  refine returnsInHanded_of_row (C := Tryd.checked) (s := (Rows.OpenSpec.upto Rows.fnToValidGoodSpec)) own started (by kernel_rfl) Tryd.func9
    (witness_row_at (enc := enc) (C := Tryd.checked) false (laidWorld os) #[.string ⟨#[]⟩, .string ⟨#[]⟩] rfl (by kernel_rfl) (by kernel_rfl) (by kernel_rfl)
      (OpenSpec.preRow_of_cond 8 hx (by kernel_rfl) (fun k hk => by cases hk; kernel_rfl) (by kernel_rfl) (laid_met os))) ?_
  intro W base args ds gs before hval0 hW _ hkk hsz0 hL _ _
  have hk := hkk _ rfl
  have hval : ∀ (j : Nat) t v, Tryd.f9.params[j]? = some t → args[j]? = some v → Value.okWide Tryd.prog W .any base t v := hval0
  have hW' := hW
  obtain ⟨p, q, hA0, hV, rfl, hfz, hnd⟩ := hW
  have hA : DataW.TrodAll enc Tryd.prog W 0 (fun _ => true) true Tryd.f9.params.toList args.toList ds p := hA0
  rw [Tryd.params9] at hA hval
  obtain ⟨v0, vs0, d0, ds0, p0, q0, hargs, rfl, rfl, h0, r0⟩ := trodAll_cons hA
  obtain ⟨v1, vs1, d1, ds1, p1, q1, rfl, rfl, rfl, h1, r1⟩ := trodAll_cons r0
  obtain ⟨rfl, rfl, rfl⟩ := trodAll_nil r1
  obtain rfl : args = #[v0, v1] := by cases args; simp_all
  obtain ⟨rfl, rfl⟩ := trodVars_none hV
  have k0 := h0
  have lt0 : ∀ x ∈ p0, x.block < W.heap.size := by obtain ⟨m, hm⟩ := k0; exact DataW.trod_lt m _ _ _ hm
  obtain ⟨s0, rfl, rfl, rfl, w0⟩ := open_string Tryd.underlying9 (hval 0 9 v0 rfl rfl) h0
  have z0 : s0.size ≤ 1048576 := by have := bulk_str (H := H) s0; have hb := bulk_bound hk; simp only [Rows.uptoBulkAll, List.append_nil] at hb; omega
  have k1 := h1
  have lt1 : ∀ x ∈ p1, x.block < W.heap.size := by obtain ⟨m, hm⟩ := k1; exact DataW.trod_lt m _ _ _ hm
  obtain ⟨s1, rfl, rfl, rfl, w1⟩ := open_string Tryd.underlying9 (hval 1 9 v1 rfl rfl) h1
  have z1 : s1.size ≤ 1048576 := by have := bulk_str (H := H) s1; have hb := bulk_bound hk; simp only [Rows.uptoBulkAll, List.append_nil] at hb; omega
  have hu : s0.size + s1.size ≤ 1048576 := by have q0 := bulk_str (H := H) s0; have q1 := bulk_str (H := H) s1; have hb := bulk_bound hk; simp only [Rows.uptoBulkAll, List.append_nil] at hb; omega
  clear hA0 hval0
  refine (fnToValidGood_walk s0 s1 W (tabs hL) z0 z1 hu).mono fun e W' ⟨he, bel⟩ => ?_
  subst he
  exact ⟨_, rfl, _, _, _, [], _, [], hW', trodAll_mk1 (shut_bool Tryd.underlying4 _), (trodAll_cons_mk (shut_string Tryd.underlying9 w0) (trodAll_cons_mk (shut_string Tryd.underlying9 w1) trodAll_mk0)), rfl, bel.out.frame _, fun h => by cases h⟩
theorem row : Rows.FnToValidGoodUptoSaid :=
  OpenClaim.holds_of_cond 9 Tryd.f9 rfl rfl rfl rfl rfl rfl rfl ⟨rfl, rfl, rfl, rfl, rfl⟩ rfl rfl rfl rfl rfl (by kernel_rfl) Tryd.func9 (by kernel_rfl)
    (of_decide_eq_true (by kernel_rfl)) (by unfold Func.isWrapper; first | (rw [if_pos (by decide +kernel)]; kernel_rfl) | (rw [if_neg (by decide +kernel)]; exact ⟨rfl, rfl⟩))
    (fun os started H enc _ F => by rw [OpenClaim.pre_eq_preRow]; exact lifted os started H enc F)
theorem plain (f : FuncId) (fn : Func) (hf : Tryd.pinned.checked.prog.funcNamed Rows.fnToValidGoodUptoRow.func = some f) (hfn : Tryd.pinned.checked.prog.funcs[f]? = some fn) :
    false = Tryd.pinned.checked.prog.looks [] ∧ ∀ (j : Nat) t, fn.params[j]? = some t → Tryd.pinned.checked.prog.wantsStandIn t = false := by
  obtain rfl : f = 9 := Option.some.inj ((show Tryd.prog.funcNamed Rows.fnToValidGoodUptoRow.func = some 9 by kernel_rfl).symm.trans hf) |>.symm
  obtain rfl : fn = Tryd.f9 := (Option.some.inj (Tryd.func9.symm.trans hfn)).symm
  refine ⟨by kernel_rfl, fun j t ht => ?_⟩
  rw [Tryd.params9] at ht
  have hm := Array.mem_of_getElem? ht
  have hor : t = 9 := by simp at hm; omega
  subst hor
  exact (show Tryd.prog.wantsStandIn 9 = false by kernel_rfl)
theorem said : Rows.FnToValidGoodUptoCardSaid :=
  Claim7.holds_tied_plain_at .later [] _ _ _ _ row (fun _ h => by cases h) (by kernel_rfl) (fun _ h => by cases h) fnToValidGoodUpto_row_tie rfl ⟨rfl, rfl⟩ (by kernel_rfl) rfl plain (by kernel_rfl)
end fnToValidGood
end Go.Proofs.YtpijokiagkhdeaaDoor
