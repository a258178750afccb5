/- FnExactValid: Valid tells of every slice of at most 2^20 bytes what the reference tells, and leaves it as it was. The tables are those that the program lays. -/
import Derived.Test.YtgjdlcnmfpbbhaaDoorFrame
import Derived.Test.YtgjdlcnmfpbbhaaDoorValidU
import Derived.Test.YtgjdlcnmfpbbhaaDoorSpecValid
import Derived.Test.YtgjdlcnmfpbbhaaDoorToByteS
import Derived.Test.YtgjdlcnmfpbbhaaDoorSame
namespace Go.Proofs.YtgjdlcnmfpbbhaaDoor
open Go.RowKit Go.Lib
set_option linter.unusedVariables false
set_option maxHeartbeats 1000000 in
theorem fnExactValid_walk (A0 : Option Addr) (n0 c0 : Nat) (l0 : List UInt8) (w : World) (hT : Tabs w) (e0 : By w A0 n0 l0) (g0 : n0 ≤ c0) (m0 : c0 ≤ 140737488351232) :
    Calls Tryd.prog 11 #[.slice A0 n0 c0] w fun e w' => e = .returned (.bool true) ∧ Nx w w' := by
  by_cases hb : 1048576 < n0
  · go_enter Tryd.func11, Tryd.ntmps11
    go_wp2_with fail
    go_ret
    exact ⟨rfl, Nx.refl _⟩
  · have LX := Lib.hid e0.len
    obtain ⟨V, hV⟩ : ∃ K, Hid (validB l0 = K) := ⟨_, rfl⟩
    have hVV : (V != V) = false := by cases V <;> rfl
    go_enter Tryd.func11, Tryd.ntmps11
    go_wp2_with fail
    refine (toBytes_any _ _ _ l0 _ e0 (by omega)).mono ?_
    rintro e w1 ⟨A1, n1, c1, rfl, o1, x1⟩
    have hn1 : n1 ≤ n0 := by have := o1.len; rw [nums_length, LX.out] at this; omega
    go_wp2_with fail
    refine (specValid_any _ _ _ l0 _ o1.sl o1.cap_.1 (by omega)).mono ?_
    rw [hV.out]
    rintro e w2 ⟨rfl, x2⟩
    have y2 := x1.trans x2
    go_wp2_with fail
    refine (toBytes_any _ _ _ l0 _ (e0.next y2) (by omega)).mono ?_
    rintro e w3 ⟨A3, n3, c3, rfl, o3, x3⟩
    have hn3 : n3 ≤ n0 := by have := o3.len; rw [nums_length, LX.out] at this; omega
    go_wp2_with fail
    refine (valid_any _ _ _ l0 _ (hT.next (y2.trans x3)) o3.sl o3.cap_.1 (by omega)).mono ?_
    rw [hV.out]
    rintro e w4 ⟨rfl, x4⟩
    cases V
    · have y4 := (y2.trans x3).trans x4
      go_wp2_with fail
      refine (toBytes_any _ _ _ l0 _ (e0.next y4) (by omega)).mono ?_
      rintro e w5 ⟨A5, n5, c5, rfl, o5, x5⟩
      have hn5 : n5 ≤ n0 := by have := o5.len; rw [nums_length, LX.out] at this; omega
      go_wp2_with fail
      refine (eq_u8_by _ _ _ _ _ _ l0 l0 _ ((o3.sl.next x4).next x5) o5.sl (by omega) (by omega)).mono ?_
      rintro e w6 ⟨rfl, x6⟩
      rw [eqB_refl]
      go_wp2_with fail
      go_ret
      exact ⟨rfl, (y4.trans x5).trans x6⟩
    · have y4 := (y2.trans x3).trans x4
      go_wp2_with fail
      refine (toBytes_any _ _ _ l0 _ (e0.next y4) (by omega)).mono ?_
      rintro e w5 ⟨A5, n5, c5, rfl, o5, x5⟩
      have hn5 : n5 ≤ n0 := by have := o5.len; rw [nums_length, LX.out] at this; omega
      go_wp2_with fail
      refine (eq_u8_by _ _ _ _ _ _ l0 l0 _ ((o3.sl.next x4).next x5) o5.sl (by omega) (by omega)).mono ?_
      rintro e w6 ⟨rfl, x6⟩
      rw [eqB_refl]
      go_wp2_with fail
      go_ret
      exact ⟨rfl, (y4.trans x5).trans x6⟩
namespace fnExactValid
open Go.ChangeShapes Go.WideShapes Go.ChangeAt Go.RowKit
open Go.ChangeMaps (open_string shut_string)
set_option maxRecDepth 100000 in
set_option linter.unusedVariables false in
theorem laid_met (os : Os) : laidMet Tryd.prog Rows.fnExactValidRow.laid ((laidWorld os).forCall (fun _ _ => 0) ⟨#[], #[.slice none 0 0], []⟩).memory :=
  laidMet_of_run' 8 (by kernel_rfl) (by kernel_rfl)
theorem reads (os : Os) {H : Type} (enc : TypeId × Value → H) : ∃ places, DataW.whole enc Tryd.prog ((laidWorld os).forCall (fun _ _ => 0) ⟨#[], #[.slice none 0 0], []⟩).memory Tryd.f11.params.toList Rows.fnExactValidSpec.vars false (#[.slice none 0 0] : Array Value).toList 8 = some ([.nil], [], places) :=
  ⟨[], by kernel_rfl⟩
set_option maxRecDepth 100000 in
set_option linter.unusedVariables false in
theorem lifted (os : Os) (started : os.Started) (H : Type) (enc : TypeId × Value → H) (F : Stop.Interp) :
    ReturnsInHanded {} Tryd.checked os 11 .any ((OpenSpec.ofChange Rows.fnExactValidSpec).preRow enc Tryd.prog Tryd.f11 Rows.fnExactValidRow.domain false Rows.fnExactValidRow.laid) (((OpenSpec.ofChange Rows.fnExactValidSpec).at F).post enc Tryd.prog Tryd.f11 false true false false) := by
  obtain ⟨places, hx⟩ := reads os enc
  refine returnsInHanded_of_row (C := Tryd.checked) (s := (OpenSpec.ofChange Rows.fnExactValidSpec)) own started (by kernel_rfl) Tryd.func11
    (witness_row_at (enc := enc) (C := Tryd.checked) false (laidWorld os) #[.slice none 0 0] rfl (by kernel_rfl) (by kernel_rfl) (by kernel_rfl)
      (OpenSpec.preRow_of_cond 8 hx (by kernel_rfl) (fun k hk => by cases hk) (by kernel_rfl) (laid_met os))) ?_
  intro W base args ds gs before hval0 hW _ hkk hsz0 hL _ _
  have hsz : (DataW.weightsEach Tryd.prog (Tryd.f11.params.toList ++ (OpenSpec.ofChange Rows.fnExactValidSpec).bare.plain.varTypes Tryd.prog) (ds ++ gs)).all (· ≤ reachBytes) = true := hsz0
  rw [Tryd.params11] at hsz
  have hval : ∀ (j : Nat) t v, Tryd.f11.params[j]? = some t → args[j]? = some v → Value.okWide Tryd.prog W .any base t v := hval0
  have hW' := hW
  obtain ⟨p, q, hA0, hV, rfl, hfz, hnd⟩ := hW
  have hA : DataW.TrodAll enc Tryd.prog W 0 (fun _ => true) true Tryd.f11.params.toList args.toList ds p := hA0
  rw [Tryd.params11] at hA hval
  obtain ⟨v0, vs0, d0, ds0, p0, q0, hargs, rfl, rfl, h0, r0⟩ := trodAll_cons hA
  obtain ⟨rfl, rfl, rfl⟩ := trodAll_nil r0
  obtain rfl : args = #[v0] := by cases args; simp_all
  obtain ⟨rfl, rfl⟩ := trodVars_none hV
  have k0 := h0
  have lt0 : ∀ x ∈ p0, x.block < W.heap.size := by obtain ⟨m, hm⟩ := k0; exact DataW.trod_lt m _ _ _ hm
  obtain ⟨A0, n0, c0, l0, rfl, e0, g0, m0, u0⟩ := open_by Tryd.underlying22 Tryd.underlying5 (by kernel_rfl) (hval 0 22 v0 rfl rfl) h0
  have z0 : c0 ≤ 140737488351232 := by have := held_size (j := 0) (t := 22) (b := 1) hsz (by kernel_rfl) (by rfl) rfl Tryd.underlying22 u0; omega
  clear hA0 hval0
  refine (fnExactValid_walk A0 n0 c0 l0 W (tabs hL) e0 g0 z0).mono fun e W' ⟨he, bel⟩ => ?_
  subst he
  exact ⟨_, rfl, _, _, _, [], _, [], hW', trodAll_mk1 (shut_bool Tryd.underlying4 _), (trodAll_cons_mk (Below.trod laidOut (by kernel_rfl) (of_decide_eq_true (by kernel_rfl)) k0 bel.out lt0) trodAll_mk0), rfl, bel.out.frame _, fun h => by cases h⟩
theorem row : Rows.FnExactValidSaid :=
  OpenClaim.holds_of_cond 11 Tryd.f11 rfl rfl rfl rfl rfl rfl rfl ⟨rfl, rfl, rfl, rfl, rfl⟩ rfl rfl rfl rfl rfl (by kernel_rfl) Tryd.func11 (by kernel_rfl)
    (of_decide_eq_true (by kernel_rfl)) (by unfold Func.isWrapper; first | (rw [if_pos (by decide +kernel)]; kernel_rfl) | (rw [if_neg (by decide +kernel)]; exact ⟨rfl, rfl⟩))
    (fun os started H enc _ F => by rw [OpenClaim.pre_eq_preRow]; exact lifted os started H enc F)
theorem plain (f : FuncId) (fn : Func) (hf : Tryd.pinned.checked.prog.funcNamed Rows.fnExactValidRow.func = some f) (hfn : Tryd.pinned.checked.prog.funcs[f]? = some fn) :
    false = Tryd.pinned.checked.prog.looks [] ∧ ∀ (j : Nat) t, fn.params[j]? = some t → Tryd.pinned.checked.prog.wantsStandIn t = false := by
  obtain rfl : f = 11 := Option.some.inj ((show Tryd.prog.funcNamed Rows.fnExactValidRow.func = some 11 by kernel_rfl).symm.trans hf) |>.symm
  obtain rfl : fn = Tryd.f11 := (Option.some.inj (Tryd.func11.symm.trans hfn)).symm
  refine ⟨by kernel_rfl, fun j t ht => ?_⟩
  rw [Tryd.params11] at ht
  have hm := Array.mem_of_getElem? ht
  have hor : t = 22 := by simp at hm; omega
  subst hor
  exact (show Tryd.prog.wantsStandIn 22 = false by kernel_rfl)
theorem said : Rows.FnExactValidCardSaid :=
  Claim7.holds_tied_plain_at .later [] _ _ _ _ row (fun _ h => by cases h) (by kernel_rfl) (fun _ h => by cases h) fnExactValid_row_tie rfl ⟨rfl, rfl⟩ (by kernel_rfl) rfl plain (by kernel_rfl)
end fnExactValid
end Go.Proofs.YtgjdlcnmfpbbhaaDoor
