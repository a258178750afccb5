/- FnFullInvalid: FullRune says yes to bytes that are neither the beginning of an encoding nor begin with one. The tables are those that the program lays. -/
import Derived.Test.YtgjdlcnmfpbbhaaDoorFrame
import Derived.Test.YtgjdlcnmfpbbhaaDoorFullI
import Derived.Test.YtgjdlcnmfpbbhaaDoorDecode
import Derived.Test.YtgjdlcnmfpbbhaaDoorBegins
namespace Go.Proofs.YtgjdlcnmfpbbhaaDoor
open Go.RowKit Go.Lib
set_option linter.unusedVariables false
set_option maxRecDepth 100000 in
set_option maxHeartbeats 2000000 in
theorem fnFullInvalid_walk (A0 : Option Addr) (n0 c0 : Nat) (l0 : List UInt8) (w : World) (hT : Tabs w) (e0 : By w A0 n0 l0) (g0 : n0 ≤ c0) (m0 : c0 ≤ 140737488351232) :
    Calls Tryd.prog 4 #[.slice A0 n0 c0] w fun e w' => e = .returned (.bool true) ∧ Nx w w' := by
  have LX := Lib.hid e0.len
  obtain ⟨R, hR⟩ : ∃ K, Hid ((dec l0).1 = K) := ⟨_, rfl⟩
  obtain ⟨K, hK⟩ : ∃ K, Hid ((dec l0).2 = K) := ⟨_, rfl⟩
  obtain ⟨X, hX⟩ : ∃ X, Hid (strOf l0 = X) := ⟨_, rfl⟩
  have hXd : Hid (X.data.toList = l0) := by show _ = _; rw [← hX.out, strOf_data]
  have hXs : X.size ≤ n0 := by rw [← hX.out, strOf_size, LX.out]; omega
  by_cases h1 : R = 65533
  · have q1 : ((R : Int) != 65533) = false := by simp; omega
    by_cases h2 : K = 1
    · have q2 : ((K : Int) != 1) = false := by simp; omega
      have hne : l0 ≠ [] := by
        intro hn
        have := hK.out
        rw [hn, dec_nil] at this
        simp only at this
        omega
      cases hB : begB l0 with
      | true =>
        have HB := Lib.hid hB
        clear hB hne h1 h2
        go_enter Tryd.func4, Tryd.ntmps4
        go_wp2_with fail
        refine (specDecode_any _ _ _ l0 _ e0 g0 (by omega)).mono ?_
        rw [hR.out, hK.out]
        rintro e w1 ⟨rfl, x1⟩
        go_wp2_with fail
        refine (begins_any _ _ _ l0 _ (e0.next x1) (by omega)).mono ?_
        rw [HB.out]
        rintro e w2 ⟨rfl, x2⟩
        go_wp2_with fail
        go_ret
        exact ⟨rfl, x1.trans x2⟩
      | false =>
        have hf : Hid (fullB l0 = true) := by show _ = _; rw [full_eq l0 hne, hB]; rfl
        have HB := Lib.hid hB
        clear hB hne h1 h2
        go_enter Tryd.func4, Tryd.ntmps4
        go_wp2_with fail
        refine (specDecode_any _ _ _ l0 _ e0 g0 (by omega)).mono ?_
        rw [hR.out, hK.out]
        rintro e w1 ⟨rfl, x1⟩
        go_wp2_with fail
        refine (begins_any _ _ _ l0 _ (e0.next x1) (by omega)).mono ?_
        rw [HB.out]
        rintro e w2 ⟨rfl, x2⟩
        have y2 := x1.trans x2
        go_wp2_with fail
        refine (fullR_any _ _ _ l0 _ (hT.next y2) (e0.next y2) (by omega)).mono ?_
        rw [hf.out]
        rintro e w5 ⟨rfl, x5⟩
        have y5 := (y2).trans x5
        have t1 := run_bytes_str (P := Tryd.prog) 22 9 5 Tryd.underlying22 Tryd.underlying5 Tryd.underlying9 w5 A0 n0 c0 _ (e0.next y5)
        rw [hX.out] at t1
        go_wp2_with fail
        refine (fullS_any X _ (hT.next y5) (by omega)).mono ?_
        rw [hXd.out, hf.out]
        rintro e w6 ⟨rfl, x6⟩
        go_wp2_with fail
        go_ret
        exact ⟨rfl, y5.trans x6⟩
    · have q2 : ((K : Int) != 1) = true := by simp; omega
      clear h1 h2
      go_enter Tryd.func4, Tryd.ntmps4
      go_wp2_with fail
      refine (specDecode_any _ _ _ l0 _ e0 g0 (by omega)).mono ?_
      rw [hR.out, hK.out]
      rintro e w1 ⟨rfl, x1⟩
      go_wp2_with fail
      go_ret
      exact ⟨rfl, x1⟩
  · have q1 : ((R : Int) != 65533) = true := by simp; omega
    clear h1
    go_enter Tryd.func4, Tryd.ntmps4
    go_wp2_with fail
    refine (specDecode_any _ _ _ l0 _ e0 g0 (by omega)).mono ?_
    rw [hR.out, hK.out]
    rintro e w1 ⟨rfl, x1⟩
    go_wp2_with fail
    go_ret
    exact ⟨rfl, x1⟩
namespace fnFullInvalid
open Go.ChangeShapes Go.WideShapes Go.ChangeAt Go.RowKit
open Go.ChangeMaps (open_string shut_string)
set_option maxRecDepth 100000 in
set_option linter.unusedVariables false in
theorem laid_met (os : Os) : laidMet Tryd.prog Rows.fnFullInvalidRow.laid ((laidWorld os).forCall (fun _ _ => 0) ⟨#[], #[.slice none 0 0], []⟩).memory :=
  laidMet_of_run' 8 (by kernel_rfl) (by kernel_rfl)
theorem reads (os : Os) {H : Type} (enc : TypeId × Value → H) : ∃ places, DataW.whole enc Tryd.prog ((laidWorld os).forCall (fun _ _ => 0) ⟨#[], #[.slice none 0 0], []⟩).memory Tryd.f4.params.toList Rows.fnFullInvalidSpec.vars false (#[.slice none 0 0] : Array Value).toList 8 = some ([.nil], [], places) :=
  ⟨[], by kernel_rfl⟩
set_option maxRecDepth 100000 in
set_option linter.unusedVariables false in
theorem lifted (os : Os) (started : os.Started) (H : Type) (enc : TypeId × Value → H) (F : Stop.Interp) :
    ReturnsInHanded {} Tryd.checked os 4 .any ((OpenSpec.ofChange Rows.fnFullInvalidSpec).preRow enc Tryd.prog Tryd.f4 Rows.fnFullInvalidRow.domain false Rows.fnFullInvalidRow.laid) (((OpenSpec.ofChange Rows.fnFullInvalidSpec).at F).post enc Tryd.prog Tryd.f4 false true false false) := by
  obtain ⟨places, hx⟩ := reads os enc
  refine returnsInHanded_of_row (C := Tryd.checked) (s := (OpenSpec.ofChange Rows.fnFullInvalidSpec)) own started (by kernel_rfl) Tryd.func4
    (witness_row_at (enc := enc) (C := Tryd.checked) false (laidWorld os) #[.slice none 0 0] rfl (by kernel_rfl) (by kernel_rfl) (by kernel_rfl)
      (OpenSpec.preRow_of_cond 8 hx (by kernel_rfl) (fun k hk => by cases hk) (by kernel_rfl) (laid_met os))) ?_
  intro W base args ds gs before hval0 hW _ hkk hsz0 hL _ _
  have hsz : (DataW.weightsEach Tryd.prog (Tryd.f4.params.toList ++ (OpenSpec.ofChange Rows.fnFullInvalidSpec).bare.plain.varTypes Tryd.prog) (ds ++ gs)).all (· ≤ reachBytes) = true := hsz0
  rw [Tryd.params4] at hsz
  have hval : ∀ (j : Nat) t v, Tryd.f4.params[j]? = some t → args[j]? = some v → Value.okWide Tryd.prog W .any base t v := hval0
  have hW' := hW
  obtain ⟨p, q, hA0, hV, rfl, hfz, hnd⟩ := hW
  have hA : DataW.TrodAll enc Tryd.prog W 0 (fun _ => true) true Tryd.f4.params.toList args.toList ds p := hA0
  rw [Tryd.params4] at hA hval
  obtain ⟨v0, vs0, d0, ds0, p0, q0, hargs, rfl, rfl, h0, r0⟩ := trodAll_cons hA
  obtain ⟨rfl, rfl, rfl⟩ := trodAll_nil r0
  obtain rfl : args = #[v0] := by cases args; simp_all
  obtain ⟨rfl, rfl⟩ := trodVars_none hV
  have k0 := h0
  have lt0 : ∀ x ∈ p0, x.block < W.heap.size := by obtain ⟨m, hm⟩ := k0; exact DataW.trod_lt m _ _ _ hm
  obtain ⟨A0, n0, c0, l0, rfl, e0, g0, m0, u0⟩ := open_by Tryd.underlying22 Tryd.underlying5 (by kernel_rfl) (hval 0 22 v0 rfl rfl) h0
  have z0 : c0 ≤ 140737488351232 := by have := held_size (j := 0) (t := 22) (b := 1) hsz (by kernel_rfl) (by rfl) rfl Tryd.underlying22 u0; omega
  clear hA0 hval0
  refine (fnFullInvalid_walk A0 n0 c0 l0 W (tabs hL) e0 g0 z0).mono fun e W' ⟨he, bel⟩ => ?_
  subst he
  exact ⟨_, rfl, _, _, _, [], _, [], hW', trodAll_mk1 (shut_bool Tryd.underlying4 _), (trodAll_cons_mk (Below.trod laidOut (by kernel_rfl) (of_decide_eq_true (by kernel_rfl)) k0 bel.out lt0) trodAll_mk0), rfl, bel.out.frame _, fun h => by cases h⟩
theorem row : Rows.FnFullInvalidSaid :=
  OpenClaim.holds_of_cond 4 Tryd.f4 rfl rfl rfl rfl rfl rfl rfl ⟨rfl, rfl, rfl, rfl, rfl⟩ rfl rfl rfl rfl rfl (by kernel_rfl) Tryd.func4 (by kernel_rfl)
    (of_decide_eq_true (by kernel_rfl)) (by unfold Func.isWrapper; first | (rw [if_pos (by decide +kernel)]; kernel_rfl) | (rw [if_neg (by decide +kernel)]; exact ⟨rfl, rfl⟩))
    (fun os started H enc _ F => by rw [OpenClaim.pre_eq_preRow]; exact lifted os started H enc F)
theorem plain (f : FuncId) (fn : Func) (hf : Tryd.pinned.checked.prog.funcNamed Rows.fnFullInvalidRow.func = some f) (hfn : Tryd.pinned.checked.prog.funcs[f]? = some fn) :
    false = Tryd.pinned.checked.prog.looks [] ∧ ∀ (j : Nat) t, fn.params[j]? = some t → Tryd.pinned.checked.prog.wantsStandIn t = false := by
  obtain rfl : f = 4 := Option.some.inj ((show Tryd.prog.funcNamed Rows.fnFullInvalidRow.func = some 4 by kernel_rfl).symm.trans hf) |>.symm
  obtain rfl : fn = Tryd.f4 := (Option.some.inj (Tryd.func4.symm.trans hfn)).symm
  refine ⟨by kernel_rfl, fun j t ht => ?_⟩
  rw [Tryd.params4] at ht
  have hm := Array.mem_of_getElem? ht
  have hor : t = 22 := by simp at hm; omega
  subst hor
  exact (show Tryd.prog.wantsStandIn 22 = false by kernel_rfl)
theorem said : Rows.FnFullInvalidCardSaid :=
  Claim7.holds_tied_plain_at .later [] _ _ _ _ row (fun _ h => by cases h) (by kernel_rfl) (fun _ h => by cases h) fnFullInvalid_row_tie rfl ⟨rfl, rfl⟩ (by kernel_rfl) rfl plain (by kernel_rfl)
end fnFullInvalid
end Go.Proofs.YtgjdlcnmfpbbhaaDoor
