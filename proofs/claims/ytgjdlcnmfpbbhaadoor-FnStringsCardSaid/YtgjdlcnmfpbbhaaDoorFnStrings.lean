/- FnStrings: all functions of strings tell the same as those of bytes. The tables are those that the program lays. -/
import Derived.Test.YtgjdlcnmfpbbhaaDoorFrame
import Derived.Test.YtgjdlcnmfpbbhaaDoorDecodeU
import Derived.Test.YtgjdlcnmfpbbhaaDoorValidU
import Derived.Test.YtgjdlcnmfpbbhaaDoorFullI
import Derived.Test.YtgjdlcnmfpbbhaaDoorCount
import Derived.Test.YtgjdlcnmfpbbhaaDoorPlainE
namespace Go.Proofs.YtgjdlcnmfpbbhaaDoor
open Go.RowKit Go.Lib
set_option linter.unusedVariables false
set_option maxRecDepth 100000 in
set_option maxHeartbeats 2000000 in
theorem fnStrings_walk (A0 : Option Addr) (n0 c0 : Nat) (l0 : List UInt8) (w : World) (hT : Tabs w) (e0 : By w A0 n0 l0) (g0 : n0 ≤ c0) (m0 : c0 ≤ 140737488351232) :
    Calls Tryd.prog 3 #[.slice A0 n0 c0] w fun e w' => e = .returned (.bool true) ∧ Nx w w' := by
  have LX := Lib.hid e0.len
  obtain ⟨R, hR⟩ : ∃ K, Hid ((dec l0).1 = K) := ⟨_, rfl⟩
  obtain ⟨K, hK⟩ : ∃ K, Hid ((dec l0).2 = K) := ⟨_, rfl⟩
  obtain ⟨S, hS⟩ : ∃ K, Hid ((decodeLastL l0).1 = K) := ⟨_, rfl⟩
  obtain ⟨J, hJ⟩ : ∃ K, Hid ((decodeLastL l0).2 = K) := ⟨_, rfl⟩
  obtain ⟨F, hF⟩ : ∃ K, Hid (fullB l0 = K) := ⟨_, rfl⟩
  obtain ⟨C, hC⟩ : ∃ K, Hid (cnt l0 = K) := ⟨_, rfl⟩
  obtain ⟨V, hV⟩ : ∃ K, Hid (validB l0 = K) := ⟨_, rfl⟩
  obtain ⟨X, hX⟩ : ∃ X, Hid (strOf l0 = X) := ⟨_, rfl⟩
  have hXd : Hid (X.data.toList = l0) := by show _ = _; rw [← hX.out, strOf_data]
  have hXs : X.size ≤ n0 := by rw [← hX.out, strOf_size, LX.out]; omega
  have r1 : ((R : Int) != (R : Int)) = false := by simp
  have r2 : ((K : Int) != (K : Int)) = false := by simp
  have r3 : ((S : Int) != (S : Int)) = false := by simp
  have r4 : ((J : Int) != (J : Int)) = false := by simp
  have r5 : ((C : Int) == (C : Int)) = true := by simp
  have r6 : (F == F) = true := by simp
  have r7 : (V == V) = true := by simp
  have P1 : Hid (n0 ≠ 0 → 1 ≤ K ∧ 1 ≤ J) := by
    intro h
    have hne : l0 ≠ [] := by
      intro hn
      have := LX.out
      rw [hn] at this
      simp at this
      omega
    rw [← hK.out, ← hJ.out]
    exact ⟨(dec_bounds l0).2.2.2.1 hne, (last_bounds l0).2.2.2.1 hne⟩
  have t1 := run_bytes_str (P := Tryd.prog) 22 9 5 Tryd.underlying22 Tryd.underlying5 Tryd.underlying9 w A0 n0 c0 _ e0
  rw [hX.out] at t1
  have cf := Lib.hid fun W (h : Nx w W) => nx_mono h (fullR_any A0 n0 c0 l0 W (hT.next h) (e0.next h) (by omega))
  have cfs := Lib.hid fun W (h : Nx w W) => nx_mono h (fullS_any X W (hT.next h) (by omega))
  have cc := Lib.hid fun W (h : Nx w W) => nx_mono h (count_any A0 n0 c0 l0 W (e0.next h) g0 (by omega))
  have ccs := Lib.hid fun W (h : Nx w W) => nx_mono h (countS_any X W (by omega))
  have cv := Lib.hid fun W (h : Nx w W) => nx_mono h (valid_any A0 n0 c0 l0 W (hT.next h) (e0.next h) g0 (by omega))
  have cvs := Lib.hid fun W (h : Nx w W) => nx_mono h (validS_any X W (hT.next h) (by omega))
  rw [hXd.out] at cfs ccs cvs
  rw [hF.out] at cf cfs
  rw [hC.out] at cc ccs
  rw [hV.out] at cv cvs
  go_enter Tryd.func3, Tryd.ntmps3
  go_wp2_with fail
  refine (decode_any _ _ _ l0 _ hT e0).mono ?_
  rw [hR.out, hK.out]
  rintro e w1 ⟨rfl, x1⟩
  clear t1
  go_wp2_with fail
  refine (decodeS_any X _ (hT.next x1)).mono ?_
  rw [hXd.out, hR.out, hK.out]
  rintro e w2 ⟨rfl, x2⟩
  have y2 := x1.trans x2
  go_wp2_with fail
  refine (last_any _ _ _ l0 _ (hT.next y2) (e0.next y2) g0 (by omega)).mono ?_
  rw [hS.out, hJ.out]
  rintro e w3 ⟨rfl, x3⟩
  have y3 := y2.trans x3
  go_wp2_with fail
  refine (lastS_any X _ (hT.next y3) (by omega)).mono ?_
  rw [hXd.out, hS.out, hJ.out]
  rintro e w4 ⟨rfl, x4⟩
  have y4 := y3.trans x4
  clear x1 x2 x3 x4 y2 y3
  by_cases h0 : n0 = 0
  · subst h0
    go_wp2_with fail
    refine (cf.out _ y4).mono ?_
    rintro e w5 ⟨rfl, x5⟩
    go_wp2_with (first | (go_at_call 20; refine (cfs.out _ x5).mono ?_; rintro e w6 ⟨rfl, x6⟩) | (go_at_call 21; refine (cc.out _ x6).mono ?_; rintro e w7 ⟨rfl, x7⟩) | (go_at_call 22; refine (ccs.out _ x7).mono ?_; rintro e w8 ⟨rfl, x8⟩) | (go_at_call 23; refine (cv.out _ x8).mono ?_; rintro e w9 ⟨rfl, x9⟩) | (go_at_call 24; refine (cvs.out _ x9).mono ?_; rintro e w10 ⟨rfl, x10⟩))
    go_ret
    exact ⟨rfl, x10⟩
  · have z0 : (0 : Int) < (n0 : Int) := by omega
    obtain ⟨k1, j1⟩ := P1.out h0
    have z1 : ((K : Int) == 0) = false := by simp; omega
    have z2 : ((J : Int) == 0) = false := by simp; omega
    clear h0
    go_wp2_with fail
    refine (cf.out _ y4).mono ?_
    rintro e w5 ⟨rfl, x5⟩
    go_wp2_with (first | (go_at_call 20; refine (cfs.out _ x5).mono ?_; rintro e w6 ⟨rfl, x6⟩) | (go_at_call 21; refine (cc.out _ x6).mono ?_; rintro e w7 ⟨rfl, x7⟩) | (go_at_call 22; refine (ccs.out _ x7).mono ?_; rintro e w8 ⟨rfl, x8⟩) | (go_at_call 23; refine (cv.out _ x8).mono ?_; rintro e w9 ⟨rfl, x9⟩) | (go_at_call 24; refine (cvs.out _ x9).mono ?_; rintro e w10 ⟨rfl, x10⟩))
    go_ret
    exact ⟨rfl, x10⟩
namespace fnStrings
open Go.ChangeShapes Go.WideShapes Go.ChangeAt Go.RowKit
open Go.ChangeMaps (open_string shut_string)
set_option maxRecDepth 100000 in
set_option linter.unusedVariables false in
theorem laid_met (os : Os) : laidMet Tryd.prog Rows.fnStringsRow.laid ((laidWorld os).forCall (fun _ _ => 0) ⟨#[], #[.slice none 0 0], []⟩).memory :=
  laidMet_of_run' 8 (by kernel_rfl) (by kernel_rfl)
theorem reads (os : Os) {H : Type} (enc : TypeId × Value → H) : ∃ places, DataW.whole enc Tryd.prog ((laidWorld os).forCall (fun _ _ => 0) ⟨#[], #[.slice none 0 0], []⟩).memory Tryd.f3.params.toList Rows.fnStringsSpec.vars false (#[.slice none 0 0] : Array Value).toList 8 = some ([.nil], [], places) :=
  ⟨[], by kernel_rfl⟩
set_option maxRecDepth 100000 in
set_option linter.unusedVariables false in
theorem lifted (os : Os) (started : os.Started) (H : Type) (enc : TypeId × Value → H) (F : Stop.Interp) :
    ReturnsInHanded {} Tryd.checked os 3 .any ((OpenSpec.ofChange Rows.fnStringsSpec).preRow enc Tryd.prog Tryd.f3 Rows.fnStringsRow.domain false Rows.fnStringsRow.laid) (((OpenSpec.ofChange Rows.fnStringsSpec).at F).post enc Tryd.prog Tryd.f3 false true false false) := by
  obtain ⟨places, hx⟩ := reads os enc
  refine returnsInHanded_of_row (C := Tryd.checked) (s := (OpenSpec.ofChange Rows.fnStringsSpec)) own started (by kernel_rfl) Tryd.func3
    (witness_row_at (enc := enc) (C := Tryd.checked) false (laidWorld os) #[.slice none 0 0] rfl (by kernel_rfl) (by kernel_rfl) (by kernel_rfl)
      (OpenSpec.preRow_of_cond 8 hx (by kernel_rfl) (fun k hk => by cases hk) (by kernel_rfl) (laid_met os))) ?_
  intro W base args ds gs before hval0 hW _ hkk hsz0 hL _ _
  have hsz : (DataW.weightsEach Tryd.prog (Tryd.f3.params.toList ++ (OpenSpec.ofChange Rows.fnStringsSpec).bare.plain.varTypes Tryd.prog) (ds ++ gs)).all (· ≤ reachBytes) = true := hsz0
  rw [Tryd.params3] at hsz
  have hval : ∀ (j : Nat) t v, Tryd.f3.params[j]? = some t → args[j]? = some v → Value.okWide Tryd.prog W .any base t v := hval0
  have hW' := hW
  obtain ⟨p, q, hA0, hV, rfl, hfz, hnd⟩ := hW
  have hA : DataW.TrodAll enc Tryd.prog W 0 (fun _ => true) true Tryd.f3.params.toList args.toList ds p := hA0
  rw [Tryd.params3] at hA hval
  obtain ⟨v0, vs0, d0, ds0, p0, q0, hargs, rfl, rfl, h0, r0⟩ := trodAll_cons hA
  obtain ⟨rfl, rfl, rfl⟩ := trodAll_nil r0
  obtain rfl : args = #[v0] := by cases args; simp_all
  obtain ⟨rfl, rfl⟩ := trodVars_none hV
  have k0 := h0
  have lt0 : ∀ x ∈ p0, x.block < W.heap.size := by obtain ⟨m, hm⟩ := k0; exact DataW.trod_lt m _ _ _ hm
  obtain ⟨A0, n0, c0, l0, rfl, e0, g0, m0, u0⟩ := open_by Tryd.underlying22 Tryd.underlying5 (by kernel_rfl) (hval 0 22 v0 rfl rfl) h0
  have z0 : c0 ≤ 140737488351232 := by have := held_size (j := 0) (t := 22) (b := 1) hsz (by kernel_rfl) (by rfl) rfl Tryd.underlying22 u0; omega
  clear hA0 hval0
  refine (fnStrings_walk A0 n0 c0 l0 W (tabs hL) e0 g0 z0).mono fun e W' ⟨he, bel⟩ => ?_
  subst he
  exact ⟨_, rfl, _, _, _, [], _, [], hW', trodAll_mk1 (shut_bool Tryd.underlying4 _), (trodAll_cons_mk (Below.trod laidOut (by kernel_rfl) (of_decide_eq_true (by kernel_rfl)) k0 bel.out lt0) trodAll_mk0), rfl, bel.out.frame _, fun h => by cases h⟩
theorem row : Rows.FnStringsSaid :=
  OpenClaim.holds_of_cond 3 Tryd.f3 rfl rfl rfl rfl rfl rfl rfl ⟨rfl, rfl, rfl, rfl, rfl⟩ rfl rfl rfl rfl rfl (by kernel_rfl) Tryd.func3 (by kernel_rfl)
    (of_decide_eq_true (by kernel_rfl)) (by unfold Func.isWrapper; first | (rw [if_pos (by decide +kernel)]; kernel_rfl) | (rw [if_neg (by decide +kernel)]; exact ⟨rfl, rfl⟩))
    (fun os started H enc _ F => by rw [OpenClaim.pre_eq_preRow]; exact lifted os started H enc F)
theorem plain (f : FuncId) (fn : Func) (hf : Tryd.pinned.checked.prog.funcNamed Rows.fnStringsRow.func = some f) (hfn : Tryd.pinned.checked.prog.funcs[f]? = some fn) :
    false = Tryd.pinned.checked.prog.looks [] ∧ ∀ (j : Nat) t, fn.params[j]? = some t → Tryd.pinned.checked.prog.wantsStandIn t = false := by
  obtain rfl : f = 3 := Option.some.inj ((show Tryd.prog.funcNamed Rows.fnStringsRow.func = some 3 by kernel_rfl).symm.trans hf) |>.symm
  obtain rfl : fn = Tryd.f3 := (Option.some.inj (Tryd.func3.symm.trans hfn)).symm
  refine ⟨by kernel_rfl, fun j t ht => ?_⟩
  rw [Tryd.params3] at ht
  have hm := Array.mem_of_getElem? ht
  have hor : t = 22 := by simp at hm; omega
  subst hor
  exact (show Tryd.prog.wantsStandIn 22 = false by kernel_rfl)
theorem said : Rows.FnStringsCardSaid :=
  Claim7.holds_tied_plain_at .later [] _ _ _ _ row (fun _ h => by cases h) (by kernel_rfl) (fun _ h => by cases h) fnStrings_row_tie rfl ⟨rfl, rfl⟩ (by kernel_rfl) rfl plain (by kernel_rfl)
end fnStrings
end Go.Proofs.YtgjdlcnmfpbbhaaDoor
