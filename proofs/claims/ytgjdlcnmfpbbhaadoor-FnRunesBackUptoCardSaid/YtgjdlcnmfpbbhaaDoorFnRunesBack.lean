/- FnRunesBack: a valid string that is converted to runes and back is the same; another one becomes a longer one that is valid. The condition: what is read is of bulk at most 1048576; the tables are those that the program lays. -/
import Derived.Test.YtgjdlcnmfpbbhaaDoorFrame
import Derived.Test.YtgjdlcnmfpbbhaaDoorDecodeU
import Derived.Test.YtgjdlcnmfpbbhaaDoorConv
import Derived.Test.YtgjdlcnmfpbbhaaDoorSpecValid
import Derived.Test.YtgjdlcnmfpbbhaaDoorPlainE
namespace Go.Proofs.YtgjdlcnmfpbbhaaDoor
open Go.RowKit Go.Lib
set_option linter.unusedVariables false
set_option maxRecDepth 100000 in
set_option maxHeartbeats 1000000 in
theorem fnRunesBack_walk (s0 : ByteArray) (w : World) (hT : Tabs w) (m0 : s0.size ≤ 1048576) :
    Calls Tryd.prog 14 #[.string s0] w fun e w' => e = .returned (.bool true) ∧ Nx w w' := by
  have hlen : (runesL s0.data.toList).length ≤ 1048576 := by have := runesL_len s0.data.toList; rw [size_list] at this; omega
  obtain ⟨T, hTT⟩ : ∃ T, Hid (runesL s0.data.toList = T) := ⟨_, rfl⟩
  obtain ⟨X, hX⟩ : ∃ X, Hid (strOf (text T) = X) := ⟨_, rfl⟩
  have hXd : Hid (X.data.toList = text T) := by show _ = _; rw [← hX.out, strOf_data]
  have hXl : X.size ≤ 4194304 := by
    have := (text_length T).2
    rw [hTT.out] at hlen
    rw [← hX.out, strOf_size]
    omega
  have hXv : Hid (validB (text T) = true) := by show _ = _; rw [← hTT.out]; exact back_valid _
  obtain ⟨V, hV⟩ : ∃ V, Hid (validB s0.data.toList = V) := ⟨_, rfl⟩
  have cr := Lib.hid fun W h => runesOf_any s0 W h
  rw [hTT.out] at cr
  have ct := Lib.hid fun A n c W hx => stringOf_any A n c T W hx
  rw [hX.out] at ct
  go_enter Tryd.func14, Tryd.ntmps14
  go_wp2_with fail
  refine (cr.out _ (by rw [← hTT.out]; omega)).mono ?_
  rintro e w1 ⟨A1, n1, c1, rfl, o1, x1⟩
  go_wp2_with fail
  refine (ct.out _ _ _ _ o1.sl).mono ?_
  rintro e w' ⟨rfl, rfl⟩
  go_wp2_with fail
  refine (specValidS_any s0 _ (by omega)).mono ?_
  rw [hV.out]
  rintro e w2 ⟨rfl, x2⟩
  have y2 := x1.trans x2
  cases hVV : V with
  | true =>
    have hs : X = s0 := by
      have h1 := (valid_text s0.data.toList (by rw [hV.out]; exact hVV)).1
      rw [hTT.out] at h1
      rw [← hX.out, ← h1, strOf_list]
    have heq : (X.toList == s0.toList) = true := by rw [hs]; simp
    clear hs
    go_wp2_with fail
    refine (validS_any s0 _ (hT.next y2) (by omega)).mono ?_
    rw [hV.out, hVV]
    rintro e w3 ⟨rfl, x3⟩
    go_wp2_with fail
    go_ret
    exact ⟨rfl, y2.trans x3⟩
  | false =>
    have hlt : s0.size < X.size := by
      have h1 := (back_length s0.data.toList).2 (by rw [hV.out]; exact hVV)
      rw [hTT.out, size_list] at h1
      rw [← hX.out, strOf_size]
      exact h1
    go_wp2_with fail
    refine (validS_any X _ (hT.next y2) (by omega)).mono ?_
    rw [hXd.out, hXv.out]
    rintro e w3 ⟨rfl, x3⟩
    have y3 := y2.trans x3
    go_wp2_with fail
    refine (validS_any s0 _ (hT.next y3) (by omega)).mono ?_
    rw [hV.out, hVV]
    rintro e w4 ⟨rfl, x4⟩
    go_wp2_with fail
    go_ret
    exact ⟨rfl, y3.trans x4⟩
namespace fnRunesBack
open Go.ChangeShapes Go.WideShapes Go.ChangeAt Go.RowKit
open Go.ChangeMaps (open_string shut_string)
set_option maxRecDepth 100000 in
set_option linter.unusedVariables false in
theorem laid_met (os : Os) : laidMet Tryd.prog Rows.fnRunesBackUptoRow.laid ((laidWorld os).forCall (fun _ _ => 0) ⟨#[], #[.string ⟨#[]⟩], []⟩).memory :=
  laidMet_of_run' 8 (by kernel_rfl) (by kernel_rfl)
theorem reads (os : Os) {H : Type} (enc : TypeId × Value → H) : ∃ places, DataW.whole enc Tryd.prog ((laidWorld os).forCall (fun _ _ => 0) ⟨#[], #[.string ⟨#[]⟩], []⟩).memory Tryd.f14.params.toList Rows.fnRunesBackSpec.vars false (#[.string ⟨#[]⟩] : Array Value).toList 8 = some ([.lit (.string [])], [], places) :=
  ⟨[], by kernel_rfl⟩
set_option maxRecDepth 100000 in
set_option linter.unusedVariables false in
theorem lifted (os : Os) (started : os.Started) (H : Type) (enc : TypeId × Value → H) (F : Stop.Interp) :
    ReturnsInHanded {} Tryd.checked os 14 .any ((Rows.OpenSpec.upto Rows.fnRunesBackSpec).preRow enc Tryd.prog Tryd.f14 Rows.fnRunesBackUptoRow.domain false Rows.fnRunesBackUptoRow.laid) (((Rows.OpenSpec.upto Rows.fnRunesBackSpec).at F).post enc Tryd.prog Tryd.f14 false true false false) := by
  obtain ⟨places, hx⟩ := reads os enc
  refine returnsInHanded_of_row (C := Tryd.checked) (s := (Rows.OpenSpec.upto Rows.fnRunesBackSpec)) own started (by kernel_rfl) Tryd.func14
    (witness_row_at (enc := enc) (C := Tryd.checked) false (laidWorld os) #[.string ⟨#[]⟩] rfl (by kernel_rfl) (by kernel_rfl) (by kernel_rfl)
      (OpenSpec.preRow_of_cond 8 hx (by kernel_rfl) (fun k hk => by cases hk; kernel_rfl) (by kernel_rfl) (laid_met os))) ?_
  intro W base args ds gs before hval0 hW _ hkk hsz0 hL _ _
  have hk := hkk _ rfl
  have hval : ∀ (j : Nat) t v, Tryd.f14.params[j]? = some t → args[j]? = some v → Value.okWide Tryd.prog W .any base t v := hval0
  have hW' := hW
  obtain ⟨p, q, hA0, hV, rfl, hfz, hnd⟩ := hW
  have hA : DataW.TrodAll enc Tryd.prog W 0 (fun _ => true) true Tryd.f14.params.toList args.toList ds p := hA0
  rw [Tryd.params14] at hA hval
  obtain ⟨v0, vs0, d0, ds0, p0, q0, hargs, rfl, rfl, h0, r0⟩ := trodAll_cons hA
  obtain ⟨rfl, rfl, rfl⟩ := trodAll_nil r0
  obtain rfl : args = #[v0] := by cases args; simp_all
  obtain ⟨rfl, rfl⟩ := trodVars_none hV
  have k0 := h0
  have lt0 : ∀ x ∈ p0, x.block < W.heap.size := by obtain ⟨m, hm⟩ := k0; exact DataW.trod_lt m _ _ _ hm
  obtain ⟨s0, rfl, rfl, rfl, w0⟩ := open_string Tryd.underlying9 (hval 0 9 v0 rfl rfl) h0
  have z0 : s0.size ≤ 1048576 := by have := bulk_str (H := H) s0; have hb := bulk_bound hk; simp only [Rows.uptoBulkAll, List.append_nil] at hb; omega
  clear hA0 hval0
  refine (fnRunesBack_walk s0 W (tabs hL) z0).mono fun e W' ⟨he, bel⟩ => ?_
  subst he
  exact ⟨_, rfl, _, _, _, [], _, [], hW', trodAll_mk1 (shut_bool Tryd.underlying4 _), (trodAll_cons_mk (shut_string Tryd.underlying9 w0) trodAll_mk0), rfl, bel.out.frame _, fun h => by cases h⟩
theorem row : Rows.FnRunesBackUptoSaid :=
  OpenClaim.holds_of_cond 14 Tryd.f14 rfl rfl rfl rfl rfl rfl rfl ⟨rfl, rfl, rfl, rfl, rfl⟩ rfl rfl rfl rfl rfl (by kernel_rfl) Tryd.func14 (by kernel_rfl)
    (of_decide_eq_true (by kernel_rfl)) (by unfold Func.isWrapper; first | (rw [if_pos (by decide +kernel)]; kernel_rfl) | (rw [if_neg (by decide +kernel)]; exact ⟨rfl, rfl⟩))
    (fun os started H enc _ F => by rw [OpenClaim.pre_eq_preRow]; exact lifted os started H enc F)
theorem plain (f : FuncId) (fn : Func) (hf : Tryd.pinned.checked.prog.funcNamed Rows.fnRunesBackUptoRow.func = some f) (hfn : Tryd.pinned.checked.prog.funcs[f]? = some fn) :
    false = Tryd.pinned.checked.prog.looks [] ∧ ∀ (j : Nat) t, fn.params[j]? = some t → Tryd.pinned.checked.prog.wantsStandIn t = false := by
  obtain rfl : f = 14 := Option.some.inj ((show Tryd.prog.funcNamed Rows.fnRunesBackUptoRow.func = some 14 by kernel_rfl).symm.trans hf) |>.symm
  obtain rfl : fn = Tryd.f14 := (Option.some.inj (Tryd.func14.symm.trans hfn)).symm
  refine ⟨by kernel_rfl, fun j t ht => ?_⟩
  rw [Tryd.params14] at ht
  have hm := Array.mem_of_getElem? ht
  have hor : t = 9 := by simp at hm; omega
  subst hor
  exact (show Tryd.prog.wantsStandIn 9 = false by kernel_rfl)
theorem said : Rows.FnRunesBackUptoCardSaid :=
  Claim7.holds_tied_plain_at .later [] _ _ _ _ row (fun _ h => by cases h) (by kernel_rfl) (fun _ h => by cases h) fnRunesBackUpto_row_tie rfl ⟨rfl, rfl⟩ (by kernel_rfl) rfl plain (by kernel_rfl)
end fnRunesBack
end Go.Proofs.YtgjdlcnmfpbbhaaDoor
