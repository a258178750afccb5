/- FnWidths: what is decoded from some bytes has one to four of them, and none if there are none; its rune can be encoded. The tables are those that the program lays. -/
import Derived.Test.YtcgpnmlemjldaaaDoorFrame
import Derived.Test.YtcgpnmlemjldaaaDoorDecodeU
import Derived.Test.YtcgpnmlemjldaaaDoorRune
import Derived.Test.YtcgpnmlemjldaaaDoorPlainE
namespace Go.Proofs.YtcgpnmlemjldaaaDoor
open Go.RowKit Go.Lib
set_option linter.unusedVariables false
set_option maxRecDepth 100000 in
set_option maxHeartbeats 1000000 in
theorem fnWidths_walk (A0 : Option Addr) (n0 c0 : Nat) (l0 : List UInt8) (w : World) (hT : Tabs w) (e0 : By w A0 n0 l0) (g0 : n0 ≤ c0) (m0 : c0 ≤ 140737488351232) :
    Calls Tryd.prog 3 #[.slice A0 n0 c0] w fun e w' => e = .returned (.bool true) ∧ Nx w w' := by
  have LX := Lib.hid e0.len
  obtain ⟨R, hR⟩ : ∃ K, Hid ((dec l0).1 = K) := ⟨_, rfl⟩
  obtain ⟨K, hK⟩ : ∃ K, Hid ((dec l0).2 = K) := ⟨_, rfl⟩
  obtain ⟨S, hS⟩ : ∃ K, Hid ((decodeLastL l0).1 = K) := ⟨_, rfl⟩
  obtain ⟨J, hJ⟩ : ∃ K, Hid ((decodeLastL l0).2 = K) := ⟨_, rfl⟩
  obtain ⟨_, k4, kn, k1, rg⟩ := dec_bounds l0
  obtain ⟨_, j4, jn, j1, sg⟩ := last_bounds l0
  rw [hR.out] at rg
  rw [hS.out] at sg
  rw [hK.out] at k4 kn k1
  rw [hJ.out] at j4 jn j1
  rw [LX.out] at kn jn
  have P1 : Hid (n0 ≠ 0 → l0 ≠ []) := by
    intro h hn
    have := LX.out
    rw [hn] at this
    simp at this
    omega
  have Z1 : Hid (n0 = 0 → R = 65533 ∧ S = 65533) := by
    intro h
    have hn : l0 = [] := List.eq_nil_of_length_eq_zero (by rw [LX.out]; exact h)
    rw [← hR.out, ← hS.out, hn]
    exact ⟨rfl, rfl⟩
  have K1 := Lib.hid k1
  have J1 := Lib.hid j1
  clear k1 j1
  have cR := Lib.hid fun w => validRune_any (R : Int) w
  have cS := Lib.hid fun w => validRune_any (S : Int) w
  rw [rg] at cR
  rw [sg] at cS
  clear rg sg
  go_enter Tryd.func3, Tryd.ntmps3
  go_wp2_with fail
  refine (decode_any _ _ _ l0 _ hT e0).mono ?_
  rw [hR.out, hK.out]
  rintro e w1 ⟨rfl, x1⟩
  go_wp2_with fail
  refine (last_any _ _ _ l0 _ (hT.next x1) (e0.next x1) g0 (by omega)).mono ?_
  rw [hS.out, hJ.out]
  rintro e w2 ⟨rfl, x2⟩
  have y2 := x1.trans x2
  go_wp2_with fail
  refine (cR.out _).mono ?_
  rintro e w' ⟨rfl, rfl⟩
  go_wp2_with fail
  refine (cS.out _).mono ?_
  rintro e w' ⟨rfl, rfl⟩
  by_cases h0 : n0 = 0
  · have z : ((n0 : Int) == 0) = true := by simp [h0]
    obtain ⟨r1, r2⟩ := Z1.out h0
    have q1 : ((R : Int) == 65533) = true := by simp; omega
    have q2 : ((S : Int) == 65533) = true := by simp; omega
    have q3 : ((K : Int) == 0) = true := by simp; omega
    have q4 : ((J : Int) == 0) = true := by simp; omega
    clear r1 r2 h0 kn jn k4 j4
    go_wp2_with fail
    go_ret
    exact ⟨rfl, y2⟩
  · have z : ((n0 : Int) == 0) = false := by simp [h0]
    have k1 := K1.out (P1.out h0)
    have j1 := J1.out (P1.out h0)
    clear h0
    go_wp2_with fail
    go_ret
    exact ⟨rfl, y2⟩
namespace fnWidths
open Go.ChangeShapes Go.WideShapes Go.ChangeAt Go.RowKit
open Go.ChangeMaps (open_string shut_string)
set_option maxRecDepth 100000 in
set_option linter.unusedVariables false in
theorem laid_met (os : Os) : laidMet Tryd.prog Rows.fnWidthsRow.laid ((laidWorld os).forCall (fun _ _ => 0) ⟨#[], #[.slice none 0 0], []⟩).memory :=
  laidMet_of_run' 8 (by kernel_rfl) (by kernel_rfl)
theorem reads (os : Os) {H : Type} (enc : TypeId × Value → H) : ∃ places, DataW.whole enc Tryd.prog ((laidWorld os).forCall (fun _ _ => 0) ⟨#[], #[.slice none 0 0], []⟩).memory Tryd.f3.params.toList Rows.fnWidthsSpec.vars false (#[.slice none 0 0] : Array Value).toList 8 = some ([.nil], [], places) :=
  ⟨[], by kernel_rfl⟩
set_option maxRecDepth 100000 in
set_option linter.unusedVariables false in
theorem lifted (os : Os) (started : os.Started) (H : Type) (enc : TypeId × Value → H) (F : Stop.Interp) :
    ReturnsInHanded {} Tryd.checked os 3 .any ((OpenSpec.ofChange Rows.fnWidthsSpec).preRow enc Tryd.prog Tryd.f3 Rows.fnWidthsRow.domain false Rows.fnWidthsRow.laid) (((OpenSpec.ofChange Rows.fnWidthsSpec).at F).post enc Tryd.prog Tryd.f3 false true false false) := by
  obtain ⟨places, hx⟩ := reads os enc
  refine returnsInHanded_of_row (C := Tryd.checked) (s := (OpenSpec.ofChange Rows.fnWidthsSpec)) own started (by kernel_rfl) Tryd.func3
    (witness_row_at (enc := enc) (C := Tryd.checked) false (laidWorld os) #[.slice none 0 0] rfl (by kernel_rfl) (by kernel_rfl) (by kernel_rfl)
      (OpenSpec.preRow_of_cond 8 hx (by kernel_rfl) (fun k hk => by cases hk) (by kernel_rfl) (laid_met os))) ?_
  intro W base args ds gs before hval0 hW _ hkk hsz0 hL _ _
  have hsz : (DataW.weightsEach Tryd.prog (Tryd.f3.params.toList ++ (OpenSpec.ofChange Rows.fnWidthsSpec).bare.plain.varTypes Tryd.prog) (ds ++ gs)).all (· ≤ reachBytes) = true := hsz0
  rw [Tryd.params3] at hsz
  have hval : ∀ (j : Nat) t v, Tryd.f3.params[j]? = some t → args[j]? = some v → Value.okWide Tryd.prog W .any base t v := hval0
  have hW' := hW
  obtain ⟨p, q, hA0, hV, rfl, hfz, hnd⟩ := hW
  have hA : DataW.TrodAll enc Tryd.prog W 0 (fun _ => true) true Tryd.f3.params.toList args.toList ds p := hA0
  rw [Tryd.params3] at hA hval
  obtain ⟨v0, vs0, d0, ds0, p0, q0, hargs, rfl, rfl, h0, r0⟩ := trodAll_cons hA
  obtain ⟨rfl, rfl, rfl⟩ := trodAll_nil r0
  obtain rfl : args = #[v0] := by cases args; simp_all
  obtain ⟨rfl, rfl⟩ := trodVars_none hV
  have k0 := h0
  have lt0 : ∀ x ∈ p0, x.block < W.heap.size := by obtain ⟨m, hm⟩ := k0; exact DataW.trod_lt m _ _ _ hm
  obtain ⟨A0, n0, c0, l0, rfl, e0, g0, m0, u0⟩ := open_by Tryd.underlying22 Tryd.underlying5 (by kernel_rfl) (hval 0 22 v0 rfl rfl) h0
  have z0 : c0 ≤ 140737488351232 := by have := held_size (j := 0) (t := 22) (b := 1) hsz (by kernel_rfl) (by rfl) rfl Tryd.underlying22 u0; omega
  clear hA0 hval0
  refine (fnWidths_walk A0 n0 c0 l0 W (tabs hL) e0 g0 z0).mono fun e W' ⟨he, bel⟩ => ?_
  subst he
  exact ⟨_, rfl, _, _, _, [], _, [], hW', trodAll_mk1 (shut_bool Tryd.underlying4 _), (trodAll_cons_mk (Below.trod laidOut (by kernel_rfl) (of_decide_eq_true (by kernel_rfl)) k0 bel.out lt0) trodAll_mk0), rfl, bel.out.frame _, fun h => by cases h⟩
theorem row : Rows.FnWidthsSaid :=
  OpenClaim.holds_of_cond 3 Tryd.f3 rfl rfl rfl rfl rfl rfl rfl ⟨rfl, rfl, rfl, rfl, rfl⟩ rfl rfl rfl rfl rfl (by kernel_rfl) Tryd.func3 (by kernel_rfl)
    (of_decide_eq_true (by kernel_rfl)) (by unfold Func.isWrapper; first | (rw [if_pos (by decide +kernel)]; kernel_rfl) | (rw [if_neg (by decide +kernel)]; exact ⟨rfl, rfl⟩))
    (fun os started H enc _ F => by rw [OpenClaim.pre_eq_preRow]; exact lifted os started H enc F)
theorem plain (f : FuncId) (fn : Func) (hf : Tryd.pinned.checked.prog.funcNamed Rows.fnWidthsRow.func = some f) (hfn : Tryd.pinned.checked.prog.funcs[f]? = some fn) :
    false = Tryd.pinned.checked.prog.looks [] ∧ ∀ (j : Nat) t, fn.params[j]? = some t → Tryd.pinned.checked.prog.wantsStandIn t = false := by
  obtain rfl : f = 3 := Option.some.inj ((show Tryd.prog.funcNamed Rows.fnWidthsRow.func = some 3 by kernel_rfl).symm.trans hf) |>.symm
  obtain rfl : fn = Tryd.f3 := (Option.some.inj (Tryd.func3.symm.trans hfn)).symm
  refine ⟨by kernel_rfl, fun j t ht => ?_⟩
  rw [Tryd.params3] at ht
  have hm := Array.mem_of_getElem? ht
  have hor : t = 22 := by simp at hm; omega
  subst hor
  exact (show Tryd.prog.wantsStandIn 22 = false by kernel_rfl)
theorem said : Rows.FnWidthsCardSaid :=
  Claim7.holds_tied_plain_at .later [] _ _ _ _ row (fun _ h => by cases h) (by kernel_rfl) (fun _ h => by cases h) fnWidths_row_tie rfl ⟨rfl, rfl⟩ (by kernel_rfl) rfl plain (by kernel_rfl)
end fnWidths
end Go.Proofs.YtcgpnmlemjldaaaDoor
