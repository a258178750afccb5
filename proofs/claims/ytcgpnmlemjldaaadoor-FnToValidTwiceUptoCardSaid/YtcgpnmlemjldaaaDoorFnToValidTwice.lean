/- FnToValidTwice: what has been made valid stays as it is. The condition: what is read is of bulk at most 1048576; the tables are those that the program lays. -/
import Derived.Test.YtcgpnmlemjldaaaDoorFrame
import Derived.Test.YtcgpnmlemjldaaaDoorToValid
import Derived.Test.YtcgpnmlemjldaaaDoorSpecValid
namespace Go.Proofs.YtcgpnmlemjldaaaDoor
open Go.RowKit Go.Lib
set_option linter.unusedVariables false
set_option maxRecDepth 100000 in
set_option maxHeartbeats 1000000 in
theorem fnToValidTwice_walk (s0 s1 : ByteArray) (w : World) (hT : Tabs w) (m0 : s0.size ≤ 1048576) (m1 : s1.size ≤ 1048576) (_hu : s0.size + s1.size ≤ 1048576) :
    Calls Tryd.prog 11 #[.string s0, .string s1] w fun e w' => e = .returned (.bool true) ∧ Nx w w' := by
  obtain ⟨V, hV⟩ : ∃ V, Hid (validB s1.data.toList = V) := ⟨_, rfl⟩
  cases hVV : V with
  | false =>
    subst hVV
    go_enter Tryd.func11, Tryd.ntmps11
    go_wp2_with fail
    refine (specValidS_any s1 _ (by omega)).mono ?_
    rw [hV.out]
    rintro e w1 ⟨rfl, x1⟩
    go_wp2_with fail
    go_ret
    exact ⟨rfl, x1⟩
  | true =>
    subst hVV
    obtain ⟨O, hO⟩ : ∃ O, Hid (toV s1.data.toList false s0.data.toList = O) := ⟨_, rfl⟩
    have hOl : O.length ≤ 1099512676352 := by rw [← hO.out]; exact toV_small (by rw [size_list]; exact m0) (by rw [size_list]; exact m1) false
    have hOv : validB O = true := by rw [← hO.out]; exact toV_ok hV.out _ _
    obtain ⟨X, hX⟩ : ∃ X, Hid (strOf O = X) := ⟨_, rfl⟩
    have hXd : Hid (X.data.toList = O) := by show _ = _; rw [← hX.out, strOf_data]
    have hXs : X.size ≤ 1099512676352 := by rw [← hX.out, strOf_size]; exact hOl
    have c0 := Lib.hid fun W (h : Tabs W) => toValid_any s0 s1 W h (by omega) (by rw [hO.out]; omega)
    rw [hO.out, hX.out] at c0
    have c1 := Lib.hid fun W (h : Tabs W) => toValid_any X ⟨#[63]⟩ W h (by show X.size + 1 ≤ _; omega) (by rw [hXd.out, toV_valid _ hOv]; omega)
    have c2 := Lib.hid fun W (h : Tabs W) => toValid_any X ⟨#[]⟩ W h (by show X.size + 0 ≤ _; omega) (by rw [hXd.out, toV_valid _ hOv]; omega)
    rw [hXd.out, toV_valid _ hOv, hX.out] at c1 c2
    have hxx : (X.toList == X.toList) = true := by simp
    go_enter Tryd.func11, Tryd.ntmps11
    go_wp2_with fail
    refine (specValidS_any s1 _ (by omega)).mono ?_
    rw [hV.out]
    rintro e w1 ⟨rfl, x1⟩
    go_wp2_with fail
    refine (c0.out _ (hT.next x1)).mono ?_
    rintro e w2 ⟨rfl, x2⟩
    have y2 := x1.trans x2
    go_wp2_with fail
    refine (c1.out _ (hT.next y2)).mono ?_
    rintro e w3 ⟨rfl, x3⟩
    have y3 := y2.trans x3
    go_wp2_with fail
    refine (c2.out _ (hT.next y3)).mono ?_
    rintro e w4 ⟨rfl, x4⟩
    have y4 := y3.trans x4
    clear c0 c1 c2
    by_cases h1 : X = ⟨#[]⟩
    · by_cases h2 : s1 = ⟨#[]⟩
      · subst h2
        subst h1
        go_wp2_with fail
        go_ret
        exact ⟨rfl, y4⟩
      · have h3 : s0 = ⟨#[]⟩ := by
          have h4 : O = [] := by rw [← hXd.out, h1]
          by_cases h5 : s0.data.toList = []
          · have := strOf_list s0
            rw [h5] at this
            exact this.symm
          · exfalso
            have h6 := toV_empty h5 (by rw [hO.out]; exact h4)
            have := strOf_list s1
            rw [h6] at this
            exact h2 this.symm
        subst h3
        subst h1
        have z2 : (s1.toList == []) = false := by
          simp only [beq_eq_false_iff_ne]
          intro h
          apply h2
          have := strOf_list s1
          rw [← this]
          have h5 : s1.data.toList = [] := by rw [← h]; exact (toList_data s1).symm
          rw [h5]
          rfl
        go_wp2_with fail
        go_ret
        exact ⟨rfl, y4⟩
    · have z1 : (X.toList == []) = false := by
        simp only [beq_eq_false_iff_ne]
        intro h
        apply h1
        have := strOf_list X
        rw [← this]
        have h5 : X.data.toList = [] := by rw [← h]; exact (toList_data X).symm
        rw [h5]
        rfl
      go_wp2_with fail
      go_ret
      exact ⟨rfl, y4⟩
namespace fnToValidTwice
open Go.ChangeShapes Go.WideShapes Go.ChangeAt Go.RowKit
open Go.ChangeMaps (open_string shut_string)
set_option maxRecDepth 100000 in
set_option linter.unusedVariables false in
theorem laid_met (os : Os) : laidMet Tryd.prog Rows.fnToValidTwiceUptoRow.laid ((laidWorld os).forCall (fun _ _ => 0) ⟨#[], #[.string ⟨#[]⟩, .string ⟨#[]⟩], []⟩).memory :=
  laidMet_of_run' 8 (by kernel_rfl) (by kernel_rfl)
theorem reads (os : Os) {H : Type} (enc : TypeId × Value → H) : ∃ places, DataW.whole enc Tryd.prog ((laidWorld os).forCall (fun _ _ => 0) ⟨#[], #[.string ⟨#[]⟩, .string ⟨#[]⟩], []⟩).memory Tryd.f11.params.toList Rows.fnToValidTwiceSpec.vars false (#[.string ⟨#[]⟩, .string ⟨#[]⟩] : Array Value).toList 8 = some ([.lit (.string []), .lit (.string [])], [], places) :=
  ⟨[], by kernel_rfl⟩
set_option maxRecDepth 100000 in
set_option linter.unusedVariables false in
theorem lifted (os : Os) (started : os.Started) (H : Type) (enc : TypeId × Value → H) (F : Stop.Interp) :
    ReturnsInHanded {} Tryd.checked os 11 .any ((Rows.OpenSpec.upto Rows.fnToValidTwiceSpec).preRow enc Tryd.prog Tryd.f11 Rows.fnToValidTwiceUptoRow.domain false Rows.fnToValidTwiceUptoRow.laid) (((Rows.OpenSpec.upto Rows.fnToValidTwiceSpec).at F).post enc Tryd.prog Tryd.f11 false true false false) := by
  obtain ⟨places, hx⟩ := reads os enc
  refine returnsInHanded_of_row (C := Tryd.checked) (s := (Rows.OpenSpec.upto Rows.fnToValidTwiceSpec)) own started (by kernel_rfl) Tryd.func11
    (witness_row_at (enc := enc) (C := Tryd.checked) false (laidWorld os) #[.string ⟨#[]⟩, .string ⟨#[]⟩] rfl (by kernel_rfl) (by kernel_rfl) (by kernel_rfl)
      (OpenSpec.preRow_of_cond 8 hx (by kernel_rfl) (fun k hk => by cases hk; kernel_rfl) (by kernel_rfl) (laid_met os))) ?_
  intro W base args ds gs before hval0 hW _ hkk hsz0 hL _ _
  have hk := hkk _ rfl
  have hval : ∀ (j : Nat) t v, Tryd.f11.params[j]? = some t → args[j]? = some v → Value.okWide Tryd.prog W .any base t v := hval0
  have hW' := hW
  obtain ⟨p, q, hA0, hV, rfl, hfz, hnd⟩ := hW
  have hA : DataW.TrodAll enc Tryd.prog W 0 (fun _ => true) true Tryd.f11.params.toList args.toList ds p := hA0
  rw [Tryd.params11] at hA hval
  obtain ⟨v0, vs0, d0, ds0, p0, q0, hargs, rfl, rfl, h0, r0⟩ := trodAll_cons hA
  obtain ⟨v1, vs1, d1, ds1, p1, q1, rfl, rfl, rfl, h1, r1⟩ := trodAll_cons r0
  obtain ⟨rfl, rfl, rfl⟩ := trodAll_nil r1
  obtain rfl : args = #[v0, v1] := by cases args; simp_all
  obtain ⟨rfl, rfl⟩ := trodVars_none hV
  have k0 := h0
  have lt0 : ∀ x ∈ p0, x.block < W.heap.size := by obtain ⟨m, hm⟩ := k0; exact DataW.trod_lt m _ _ _ hm
  obtain ⟨s0, rfl, rfl, rfl, w0⟩ := open_string Tryd.underlying9 (hval 0 9 v0 rfl rfl) h0
  have z0 : s0.size ≤ 1048576 := by have := bulk_str (H := H) s0; have hb := bulk_bound hk; simp only [Rows.uptoBulkAll, List.append_nil] at hb; omega
  have k1 := h1
  have lt1 : ∀ x ∈ p1, x.block < W.heap.size := by obtain ⟨m, hm⟩ := k1; exact DataW.trod_lt m _ _ _ hm
  obtain ⟨s1, rfl, rfl, rfl, w1⟩ := open_string Tryd.underlying9 (hval 1 9 v1 rfl rfl) h1
  have z1 : s1.size ≤ 1048576 := by have := bulk_str (H := H) s1; have hb := bulk_bound hk; simp only [Rows.uptoBulkAll, List.append_nil] at hb; omega
  have hu : s0.size + s1.size ≤ 1048576 := by have q0 := bulk_str (H := H) s0; have q1 := bulk_str (H := H) s1; have hb := bulk_bound hk; simp only [Rows.uptoBulkAll, List.append_nil] at hb; omega
  clear hA0 hval0
  refine (fnToValidTwice_walk s0 s1 W (tabs hL) z0 z1 hu).mono fun e W' ⟨he, bel⟩ => ?_
  subst he
  exact ⟨_, rfl, _, _, _, [], _, [], hW', trodAll_mk1 (shut_bool Tryd.underlying4 _), (trodAll_cons_mk (shut_string Tryd.underlying9 w0) (trodAll_cons_mk (shut_string Tryd.underlying9 w1) trodAll_mk0)), rfl, bel.out.frame _, fun h => by cases h⟩
theorem row : Rows.FnToValidTwiceUptoSaid :=
  OpenClaim.holds_of_cond 11 Tryd.f11 rfl rfl rfl rfl rfl rfl rfl ⟨rfl, rfl, rfl, rfl, rfl⟩ rfl rfl rfl rfl rfl (by kernel_rfl) Tryd.func11 (by kernel_rfl)
    (of_decide_eq_true (by kernel_rfl)) (by unfold Func.isWrapper; first | (rw [if_pos (by decide +kernel)]; kernel_rfl) | (rw [if_neg (by decide +kernel)]; exact ⟨rfl, rfl⟩))
    (fun os started H enc _ F => by rw [OpenClaim.pre_eq_preRow]; exact lifted os started H enc F)
theorem plain (f : FuncId) (fn : Func) (hf : Tryd.pinned.checked.prog.funcNamed Rows.fnToValidTwiceUptoRow.func = some f) (hfn : Tryd.pinned.checked.prog.funcs[f]? = some fn) :
    false = Tryd.pinned.checked.prog.looks [] ∧ ∀ (j : Nat) t, fn.params[j]? = some t → Tryd.pinned.checked.prog.wantsStandIn t = false := by
  obtain rfl : f = 11 := Option.some.inj ((show Tryd.prog.funcNamed Rows.fnToValidTwiceUptoRow.func = some 11 by kernel_rfl).symm.trans hf) |>.symm
  obtain rfl : fn = Tryd.f11 := (Option.some.inj (Tryd.func11.symm.trans hfn)).symm
  refine ⟨by kernel_rfl, fun j t ht => ?_⟩
  rw [Tryd.params11] at ht
  have hm := Array.mem_of_getElem? ht
  have hor : t = 9 := by simp at hm; omega
  subst hor
  exact (show Tryd.prog.wantsStandIn 9 = false by kernel_rfl)
theorem said : Rows.FnToValidTwiceUptoCardSaid :=
  Claim7.holds_tied_plain_at .later [] _ _ _ _ row (fun _ h => by cases h) (by kernel_rfl) (fun _ h => by cases h) fnToValidTwiceUpto_row_tie rfl ⟨rfl, rfl⟩ (by kernel_rfl) rfl plain (by kernel_rfl)
end fnToValidTwice
end Go.Proofs.YtcgpnmlemjldaaaDoor
