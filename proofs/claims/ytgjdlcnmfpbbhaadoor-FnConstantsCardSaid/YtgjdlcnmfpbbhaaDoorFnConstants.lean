/- FnConstants: RuneError is 65533, which is decoded of a first byte that is not below RuneSelf and stands alone; the constants are what they are. The tables are those that the program lays. -/
import Derived.Test.YtgjdlcnmfpbbhaaDoorFrame
import Derived.Test.YtgjdlcnmfpbbhaaDoorDecodeU
import Derived.Test.YtgjdlcnmfpbbhaaDoorConst
import Derived.Test.YtgjdlcnmfpbbhaaDoorPlainE
namespace Go.Proofs.YtgjdlcnmfpbbhaaDoor
open Go.RowKit Go.Lib
set_option linter.unusedVariables false
set_option maxRecDepth 100000 in
set_option maxHeartbeats 1000000 in
theorem fnConstants_walk (A0 : Option Addr) (n0 c0 : Nat) (l0 : List UInt8) (w : World) (hT : Tabs w) (e0 : By w A0 n0 l0) (g0 : n0 ≤ c0) (m0 : c0 ≤ 140737488351232) :
    Calls Tryd.prog 13 #[.slice A0 n0 c0] w fun e w' => e = .returned (.bool true) ∧ Nx w w' := by
  have LX := Lib.hid e0.len
  obtain ⟨R, hR⟩ : ∃ K, Hid ((dec l0).1 = K) := ⟨_, rfl⟩
  obtain ⟨K, hK⟩ : ∃ K, Hid ((dec l0).2 = K) := ⟨_, rfl⟩
  go_enter Tryd.func13, Tryd.ntmps13
  go_wp2_with fail
  refine (constants_any _).mono ?_
  rintro e w' ⟨rfl, rfl⟩
  go_wp2_with fail
  refine (decode_any _ _ _ l0 _ hT e0).mono ?_
  rw [hR.out, hK.out]
  rintro e w1 ⟨rfl, x1⟩
  by_cases h0 : n0 = 0
  · have z : ((n0 : Int) == 0) = true := by simp [h0]
    clear h0
    go_wp2_with fail
    go_ret
    exact ⟨rfl, x1⟩
  · have z : ((n0 : Int) == 0) = false := by simp [h0]
    by_cases hk : K = 1
    · have zk : ((K : Int) != 1) = false := by simp; omega
      obtain ⟨b, off, u, rfl, hb, q1, u0, u1, hu⟩ := (e0.next x1).at_ (k := 0) (by omega)
      rw [Nat.add_zero] at q1
      have i0 : (0 : Int) < (n0 : Int) := by omega
      by_cases hlt : u < 128
      · clear h0 hk
        go_wp2_with fail
        go_ret
        exact ⟨rfl, x1⟩
      · have hr : R = 65533 := by
          rw [← hR.out]
          refine one_bad ?_ (by rw [hK.out]; exact hk) (by have := hu.out; omega)
          intro hn
          have := LX.out
          rw [hn] at this
          simp at this
          omega
        have zr : ((R : Int) == 65533) = true := by simp; omega
        have zu : decide (u < 128) = false := by simp; omega
        clear h0 hk hr
        go_wp2_with fail
        go_ret
        exact ⟨rfl, x1⟩
    · have zk : ((K : Int) != 1) = true := by simp; omega
      clear h0 hk
      go_wp2_with fail
      go_ret
      exact ⟨rfl, x1⟩
namespace fnConstants
open Go.ChangeShapes Go.WideShapes Go.ChangeAt Go.RowKit
open Go.ChangeMaps (open_string shut_string)
set_option maxRecDepth 100000 in
set_option linter.unusedVariables false in
theorem laid_met (os : Os) : laidMet Tryd.prog Rows.fnConstantsRow.laid ((laidWorld os).forCall (fun _ _ => 0) ⟨#[], #[.slice none 0 0], []⟩).memory :=
  laidMet_of_run' 8 (by kernel_rfl) (by kernel_rfl)
theorem reads (os : Os) {H : Type} (enc : TypeId × Value → H) : ∃ places, DataW.whole enc Tryd.prog ((laidWorld os).forCall (fun _ _ => 0) ⟨#[], #[.slice none 0 0], []⟩).memory Tryd.f13.params.toList Rows.fnConstantsSpec.vars false (#[.slice none 0 0] : Array Value).toList 8 = some ([.nil], [], places) :=
  ⟨[], by kernel_rfl⟩
set_option maxRecDepth 100000 in
set_option linter.unusedVariables false in
theorem lifted (os : Os) (started : os.Started) (H : Type) (enc : TypeId × Value → H) (F : Stop.Interp) :
    ReturnsInHanded {} Tryd.checked os 13 .any ((OpenSpec.ofChange Rows.fnConstantsSpec).preRow enc Tryd.prog Tryd.f13 Rows.fnConstantsRow.domain false Rows.fnConstantsRow.laid) (((OpenSpec.ofChange Rows.fnConstantsSpec).at F).post enc Tryd.prog Tryd.f13 false true false false) := by
  obtain ⟨places, hx⟩ := reads os enc
  refine returnsInHanded_of_row (C := Tryd.checked) (s := (OpenSpec.ofChange Rows.fnConstantsSpec)) own started (by kernel_rfl) Tryd.func13
    (witness_row_at (enc := enc) (C := Tryd.checked) false (laidWorld os) #[.slice none 0 0] rfl (by kernel_rfl) (by kernel_rfl) (by kernel_rfl)
      (OpenSpec.preRow_of_cond 8 hx (by kernel_rfl) (fun k hk => by cases hk) (by kernel_rfl) (laid_met os))) ?_
  intro W base args ds gs before hval0 hW _ hkk hsz0 hL _ _
  have hsz : (DataW.weightsEach Tryd.prog (Tryd.f13.params.toList ++ (OpenSpec.ofChange Rows.fnConstantsSpec).bare.plain.varTypes Tryd.prog) (ds ++ gs)).all (· ≤ reachBytes) = true := hsz0
  rw [Tryd.params13] at hsz
  have hval : ∀ (j : Nat) t v, Tryd.f13.params[j]? = some t → args[j]? = some v → Value.okWide Tryd.prog W .any base t v := hval0
  have hW' := hW
  obtain ⟨p, q, hA0, hV, rfl, hfz, hnd⟩ := hW
  have hA : DataW.TrodAll enc Tryd.prog W 0 (fun _ => true) true Tryd.f13.params.toList args.toList ds p := hA0
  rw [Tryd.params13] at hA hval
  obtain ⟨v0, vs0, d0, ds0, p0, q0, hargs, rfl, rfl, h0, r0⟩ := trodAll_cons hA
  obtain ⟨rfl, rfl, rfl⟩ := trodAll_nil r0
  obtain rfl : args = #[v0] := by cases args; simp_all
  obtain ⟨rfl, rfl⟩ := trodVars_none hV
  have k0 := h0
  have lt0 : ∀ x ∈ p0, x.block < W.heap.size := by obtain ⟨m, hm⟩ := k0; exact DataW.trod_lt m _ _ _ hm
  obtain ⟨A0, n0, c0, l0, rfl, e0, g0, m0, u0⟩ := open_by Tryd.underlying22 Tryd.underlying5 (by kernel_rfl) (hval 0 22 v0 rfl rfl) h0
  have z0 : c0 ≤ 140737488351232 := by have := held_size (j := 0) (t := 22) (b := 1) hsz (by kernel_rfl) (by rfl) rfl Tryd.underlying22 u0; omega
  clear hA0 hval0
  refine (fnConstants_walk A0 n0 c0 l0 W (tabs hL) e0 g0 z0).mono fun e W' ⟨he, bel⟩ => ?_
  subst he
  exact ⟨_, rfl, _, _, _, [], _, [], hW', trodAll_mk1 (shut_bool Tryd.underlying4 _), (trodAll_cons_mk (Below.trod laidOut (by kernel_rfl) (of_decide_eq_true (by kernel_rfl)) k0 bel.out lt0) trodAll_mk0), rfl, bel.out.frame _, fun h => by cases h⟩
theorem row : Rows.FnConstantsSaid :=
  OpenClaim.holds_of_cond 13 Tryd.f13 rfl rfl rfl rfl rfl rfl rfl ⟨rfl, rfl, rfl, rfl, rfl⟩ rfl rfl rfl rfl rfl (by kernel_rfl) Tryd.func13 (by kernel_rfl)
    (of_decide_eq_true (by kernel_rfl)) (by unfold Func.isWrapper; first | (rw [if_pos (by decide +kernel)]; kernel_rfl) | (rw [if_neg (by decide +kernel)]; exact ⟨rfl, rfl⟩))
    (fun os started H enc _ F => by rw [OpenClaim.pre_eq_preRow]; exact lifted os started H enc F)
theorem plain (f : FuncId) (fn : Func) (hf : Tryd.pinned.checked.prog.funcNamed Rows.fnConstantsRow.func = some f) (hfn : Tryd.pinned.checked.prog.funcs[f]? = some fn) :
    false = Tryd.pinned.checked.prog.looks [] ∧ ∀ (j : Nat) t, fn.params[j]? = some t → Tryd.pinned.checked.prog.wantsStandIn t = false := by
  obtain rfl : f = 13 := Option.some.inj ((show Tryd.prog.funcNamed Rows.fnConstantsRow.func = some 13 by kernel_rfl).symm.trans hf) |>.symm
  obtain rfl : fn = Tryd.f13 := (Option.some.inj (Tryd.func13.symm.trans hfn)).symm
  refine ⟨by kernel_rfl, fun j t ht => ?_⟩
  rw [Tryd.params13] at ht
  have hm := Array.mem_of_getElem? ht
  have hor : t = 22 := by simp at hm; omega
  subst hor
  exact (show Tryd.prog.wantsStandIn 22 = false by kernel_rfl)
theorem said : Rows.FnConstantsCardSaid :=
  Claim7.holds_tied_plain_at .later [] _ _ _ _ row (fun _ h => by cases h) (by kernel_rfl) (fun _ h => by cases h) fnConstants_row_tie rfl ⟨rfl, rfl⟩ (by kernel_rfl) rfl plain (by kernel_rfl)
end fnConstants
end Go.Proofs.YtgjdlcnmfpbbhaaDoor
