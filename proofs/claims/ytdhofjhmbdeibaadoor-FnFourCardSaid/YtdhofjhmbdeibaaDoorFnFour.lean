/- FnFour: not more than four bytes matter for what is decoded at an end. The tables are those that the program lays. -/
import Derived.Test.YtdhofjhmbdeibaaDoorFrame
import Derived.Test.YtdhofjhmbdeibaaDoorDecodeU
import Derived.Test.YtdhofjhmbdeibaaDoorPlainE
namespace Go.Proofs.YtdhofjhmbdeibaaDoor
open Go.RowKit Go.Lib
set_option linter.unusedVariables false
set_option maxRecDepth 100000 in
set_option maxHeartbeats 1000000 in
theorem fnFour_walk (A0 : Option Addr) (n0 c0 : Nat) (l0 : List UInt8) (w : World) (hT : Tabs w) (e0 : By w A0 n0 l0) (g0 : n0 ≤ c0) (m0 : c0 ≤ 140737488351232) :
    Calls Tryd.prog 13 #[.slice A0 n0 c0] w fun e w' => e = .returned (.bool true) ∧ Nx w w' := by
  have LX := Lib.hid e0.len
  obtain ⟨R, hR⟩ : ∃ K, Hid ((dec l0).1 = K) := ⟨_, rfl⟩
  obtain ⟨K, hK⟩ : ∃ K, Hid ((dec l0).2 = K) := ⟨_, rfl⟩
  obtain ⟨S, hS⟩ : ∃ K, Hid ((decodeLastL l0).1 = K) := ⟨_, rfl⟩
  obtain ⟨J, hJ⟩ : ∃ K, Hid ((decodeLastL l0).2 = K) := ⟨_, rfl⟩
  have hz : Hid (n0 = 0 ∨ (0 < K ∧ 0 < J)) := by
    by_cases h : n0 = 0
    · exact Or.inl h
    · right
      have hne : l0 ≠ [] := by
        intro hn
        have := LX.out
        rw [hn] at this
        simp at this
        omega
      rw [← hK.out, ← hJ.out]
      exact ⟨(dec_bounds l0).2.2.2.1 hne, (last_bounds l0).2.2.2.1 hne⟩
  have r1 : ((R : Int) == (R : Int)) = true := by simp
  have r2 : ((K : Int) == (K : Int)) = true := by simp
  have r3 : ((S : Int) == (S : Int)) = true := by simp
  have r4 : ((J : Int) == (J : Int)) = true := by simp
  by_cases h4 : 4 < n0
  · have hup := fun W => run_upto (P := Tryd.prog) 30 5 Tryd.underlying30 (fun _ => by kernel_rfl) A0 n0 c0 .i64 4 4 rfl (by omega) W
    have hcut := fun W => run_cut (P := Tryd.prog) 30 5 Tryd.underlying30 (fun _ => by kernel_rfl) A0 n0 c0 .i64 ((n0 : Int) - 4) (n0 - 4) (by omega) (by omega) W
    rw [show n0 - (n0 - 4) = 4 by omega] at hcut
    have sh := By.upto (j := 4) e0 (by omega)
    have st := By.from_ (i := n0 - 4) (cap := c0) e0 (by omega) g0
    rw [show n0 - (n0 - 4) = 4 by omega] at st
    have d1 := Lib.hid (dec_four l0)
    have d2 : Hid (decodeLastL (l0.drop (n0 - 4)) = decodeLastL l0) := by
      have := last_four l0 (by rw [LX.out]; omega)
      rw [LX.out] at this
      exact this
    go_enter Tryd.func13, Tryd.ntmps13
    go_wp2_with fail
    refine (decode_any _ _ _ l0 _ hT e0).mono ?_
    rw [hR.out, hK.out]
    rintro e w1 ⟨rfl, x1⟩
    go_wp2_with fail
    refine (decode_any _ _ _ (l0.take 4) _ (hT.next x1) (sh.next x1)).mono ?_
    rw [d1.out, hR.out, hK.out]
    rintro e w2 ⟨rfl, x2⟩
    have y2 := x1.trans x2
    go_wp2_with fail
    refine (last_any _ _ _ l0 _ (hT.next y2) (e0.next y2) g0 (by omega)).mono ?_
    rw [hS.out, hJ.out]
    rintro e w3 ⟨rfl, x3⟩
    have y3 := y2.trans x3
    go_wp2_with fail
    refine (last_any _ _ _ (l0.drop (n0 - 4)) _ (hT.next y3) (st.next y3) (by omega) (by omega)).mono ?_
    rw [d2.out, hS.out, hJ.out]
    rintro e w4 ⟨rfl, x4⟩
    have y4 := y3.trans x4
    have hk : 0 < K ∧ 0 < J := by rcases hz.out with h | h; · omega
                                  · exact h
    obtain ⟨hk, hj⟩ := hk
    have z : ((n0 : Int) == 0) = false := by simp; omega
    go_wp2_with fail
    go_ret
    exact ⟨rfl, y4⟩
  · go_enter Tryd.func13, Tryd.ntmps13
    go_wp2_with fail
    refine (decode_any _ _ _ l0 _ hT e0).mono ?_
    rw [hR.out, hK.out]
    rintro e w1 ⟨rfl, x1⟩
    go_wp2_with fail
    refine (decode_any _ _ _ l0 _ (hT.next x1) (e0.next x1)).mono ?_
    rw [(rfl : dec l0 = dec l0), hR.out, hK.out]
    rintro e w2 ⟨rfl, x2⟩
    have y2 := x1.trans x2
    go_wp2_with fail
    refine (last_any _ _ _ l0 _ (hT.next y2) (e0.next y2) g0 (by omega)).mono ?_
    rw [hS.out, hJ.out]
    rintro e w3 ⟨rfl, x3⟩
    have y3 := y2.trans x3
    go_wp2_with fail
    refine (last_any _ _ _ l0 _ (hT.next y3) (e0.next y3) (by omega) (by omega)).mono ?_
    rw [(rfl : decodeLastL l0 = decodeLastL l0), hS.out, hJ.out]
    rintro e w4 ⟨rfl, x4⟩
    have y4 := y3.trans x4
    by_cases h0 : n0 = 0
    · have z : ((n0 : Int) == 0) = true := by simp; omega
      clear h0
      go_wp2_with fail
      go_ret
      exact ⟨rfl, y4⟩
    · have z : ((n0 : Int) == 0) = false := by simp; omega
      have hk : 0 < K ∧ 0 < J := by rcases hz.out with h | h; · omega
                                    · exact h
      obtain ⟨hk, hj⟩ := hk
      clear h0
      go_wp2_with fail
      go_ret
      exact ⟨rfl, y4⟩
namespace fnFour
open Go.ChangeShapes Go.WideShapes Go.ChangeAt Go.RowKit
open Go.ChangeMaps (open_string shut_string)
set_option maxRecDepth 100000 in
set_option linter.unusedVariables false in
theorem laid_met (os : Os) : laidMet Tryd.prog Rows.fnFourRow.laid ((laidWorld os).forCall (fun _ _ => 0) ⟨#[], #[.slice none 0 0], []⟩).memory :=
  laidMet_of_run' 8 (by kernel_rfl) (by kernel_rfl)
theorem reads (os : Os) {H : Type} (enc : TypeId × Value → H) : ∃ places, DataW.whole enc Tryd.prog ((laidWorld os).forCall (fun _ _ => 0) ⟨#[], #[.slice none 0 0], []⟩).memory Tryd.f13.params.toList Rows.fnFourSpec.vars false (#[.slice none 0 0] : Array Value).toList 8 = some ([.nil], [], places) :=
  ⟨[], by kernel_rfl⟩
set_option maxRecDepth 100000 in
set_option linter.unusedVariables false in
theorem lifted (os : Os) (started : os.Started) (H : Type) (enc : TypeId × Value → H) (F : Stop.Interp) :
    ReturnsInHanded {} Tryd.checked os 13 .any ((OpenSpec.ofChange Rows.fnFourSpec).preRow enc Tryd.prog Tryd.f13 Rows.fnFourRow.domain false Rows.fnFourRow.laid) (((OpenSpec.ofChange Rows.fnFourSpec).at F).post enc Tryd.prog Tryd.f13 false true false false) := by
  obtain ⟨places, hx⟩ := reads os enc
  refine returnsInHanded_of_row (C := Tryd.checked) (s := (OpenSpec.ofChange Rows.fnFourSpec)) own started (by kernel_rfl) Tryd.func13
    (witness_row_at (enc := enc) (C := Tryd.checked) false (laidWorld os) #[.slice none 0 0] rfl (by kernel_rfl) (by kernel_rfl) (by kernel_rfl)
      (OpenSpec.preRow_of_cond 8 hx (by kernel_rfl) (fun k hk => by cases hk) (by kernel_rfl) (laid_met os))) ?_
  intro W base args ds gs before hval0 hW _ hkk hsz0 hL _ _
  have hsz : (DataW.weightsEach Tryd.prog (Tryd.f13.params.toList ++ (OpenSpec.ofChange Rows.fnFourSpec).bare.plain.varTypes Tryd.prog) (ds ++ gs)).all (· ≤ reachBytes) = true := hsz0
  rw [Tryd.params13] at hsz
  have hval : ∀ (j : Nat) t v, Tryd.f13.params[j]? = some t → args[j]? = some v → Value.okWide Tryd.prog W .any base t v := hval0
  have hW' := hW
  obtain ⟨p, q, hA0, hV, rfl, hfz, hnd⟩ := hW
  have hA : DataW.TrodAll enc Tryd.prog W 0 (fun _ => true) true Tryd.f13.params.toList args.toList ds p := hA0
  rw [Tryd.params13] at hA hval
  obtain ⟨v0, vs0, d0, ds0, p0, q0, hargs, rfl, rfl, h0, r0⟩ := trodAll_cons hA
  obtain ⟨rfl, rfl, rfl⟩ := trodAll_nil r0
  obtain rfl : args = #[v0] := by cases args; simp_all
  obtain ⟨rfl, rfl⟩ := trodVars_none hV
  have k0 := h0
  have lt0 : ∀ x ∈ p0, x.block < W.heap.size := by obtain ⟨m, hm⟩ := k0; exact DataW.trod_lt m _ _ _ hm
  obtain ⟨A0, n0, c0, l0, rfl, e0, g0, m0, u0⟩ := open_by Tryd.underlying30 Tryd.underlying5 (by kernel_rfl) (hval 0 30 v0 rfl rfl) h0
  have z0 : c0 ≤ 140737488351232 := by have := held_size (j := 0) (t := 30) (b := 1) hsz (by kernel_rfl) (by rfl) rfl Tryd.underlying30 u0; omega
  clear hA0 hval0
  refine (fnFour_walk A0 n0 c0 l0 W (tabs hL) e0 g0 z0).mono fun e W' ⟨he, bel⟩ => ?_
  subst he
  exact ⟨_, rfl, _, _, _, [], _, [], hW', trodAll_mk1 (shut_bool Tryd.underlying4 _), (trodAll_cons_mk (Below.trod laidOut (by kernel_rfl) (of_decide_eq_true (by kernel_rfl)) k0 bel.out lt0) trodAll_mk0), rfl, bel.out.frame _, fun h => by cases h⟩
theorem row : Rows.FnFourSaid :=
  OpenClaim.holds_of_cond 13 Tryd.f13 rfl rfl rfl rfl rfl rfl rfl ⟨rfl, rfl, rfl, rfl, rfl⟩ rfl rfl rfl rfl rfl (by kernel_rfl) Tryd.func13 (by kernel_rfl)
    (of_decide_eq_true (by kernel_rfl)) (by unfold Func.isWrapper; first | (rw [if_pos (by decide +kernel)]; kernel_rfl) | (rw [if_neg (by decide +kernel)]; exact ⟨rfl, rfl⟩))
    (fun os started H enc _ F => by rw [OpenClaim.pre_eq_preRow]; exact lifted os started H enc F)
theorem plain (f : FuncId) (fn : Func) (hf : Tryd.pinned.checked.prog.funcNamed Rows.fnFourRow.func = some f) (hfn : Tryd.pinned.checked.prog.funcs[f]? = some fn) :
    false = Tryd.pinned.checked.prog.looks [] ∧ ∀ (j : Nat) t, fn.params[j]? = some t → Tryd.pinned.checked.prog.wantsStandIn t = false := by
  obtain rfl : f = 13 := Option.some.inj ((show Tryd.prog.funcNamed Rows.fnFourRow.func = some 13 by kernel_rfl).symm.trans hf) |>.symm
  obtain rfl : fn = Tryd.f13 := (Option.some.inj (Tryd.func13.symm.trans hfn)).symm
  refine ⟨by kernel_rfl, fun j t ht => ?_⟩
  rw [Tryd.params13] at ht
  have hm := Array.mem_of_getElem? ht
  have hor : t = 30 := by simp at hm; omega
  subst hor
  exact (show Tryd.prog.wantsStandIn 30 = false by kernel_rfl)
theorem said : Rows.FnFourCardSaid :=
  Claim7.holds_tied_plain_at .later [] _ _ _ _ row (fun _ h => by cases h) (by kernel_rfl) (fun _ h => by cases h) fnFour_row_tie rfl ⟨rfl, rfl⟩ (by kernel_rfl) rfl plain (by kernel_rfl)
end fnFour
end Go.Proofs.YtdhofjhmbdeibaaDoor
