/- FnRoundTrip: a good rune that is encoded is decoded again, from the first byte and from the last one, with as many bytes as RuneLen tells, and is all that is counted. The tables are those that the program lays. -/
import Derived.Test.YtelejafniamgiaaDoorFrame
import Derived.Test.YtelejafniamgiaaDoorDecodeU
import Derived.Test.YtelejafniamgiaaDoorValidU
import Derived.Test.YtelejafniamgiaaDoorFullI
import Derived.Test.YtelejafniamgiaaDoorCount
import Derived.Test.YtelejafniamgiaaDoorRune
import Derived.Test.YtelejafniamgiaaDoorAppend
import Derived.Test.YtelejafniamgiaaDoorPlainF
namespace Go.Proofs.YtelejafniamgiaaDoor
open Go.RowKit Go.Lib
set_option linter.unusedVariables false
set_option maxRecDepth 100000 in
set_option maxHeartbeats 1000000 in
theorem fnRoundTrip_walk (a0 : Int) (w : World) (hT : Tabs w) (b0 : -2147483648 ≤ a0 ∧ a0 ≤ 2147483647) :
    Calls Tryd.prog 3 #[.int .i32 a0] w fun e w' => e = .returned (.bool true) ∧ Nx w w' := by
  obtain ⟨h1, h2⟩ := b0
  cases hg : goodB a0 with
  | false =>
    go_enter Tryd.func3, Tryd.ntmps3
    go_wp2_with (go_at_call 7; refine (good_any _ _).mono ?_; rintro e w' ⟨rfl, rfl⟩)
    go_ret
    exact ⟨rfl, Nx.refl _⟩
  | true =>
    obtain ⟨L, hL⟩ : ∃ L, Hid (encodeRune a0 = L) := ⟨_, rfl⟩
    obtain ⟨K, hK⟩ : ∃ K, Hid (L.length = K) := ⟨_, rfl⟩
    have HA : Hid ((a0.toNat : Int) = a0) := by show _ = _; have := hg; rw [goodB_iff] at this; omega
    have hd : Hid (dec L = (a0.toNat, K)) := by show _ = _; rw [← hK.out, ← hL.out, dec_of (enc_ne _), dec_enc' hg]
    have hl : Hid (decodeLastL L = (a0.toNat, K)) := by
      show _ = _
      have := last_enc hg []
      rw [List.nil_append, hL.out, hK.out] at this
      exact this
    have hv : Hid (validB L = true) := by show _ = _; rw [← hL.out]; have := validB_enc hg []; rw [List.append_nil, validB_nil] at this; exact this
    have hc : Hid (cnt L = 1) := by show _ = _; rw [← hL.out]; have := cnt_enc hg []; rw [List.append_nil, cnt_nil] at this; exact this
    have hf : Hid (fullB L = true) := by
      show _ = _
      rw [← hL.out, full_eq _ (enc_ne _)]
      cases hb : begB (encodeRune a0) with
      | false => rfl
      | true =>
        exfalso
        have h3 := beg_bad hb
        exact not_bad_enc hg [] (by rw [List.append_nil]; exact ⟨by rw [h3], by rw [h3]⟩)
    have cl := Lib.hid fun w => len_any a0 w
    rw [lenZ_good hg, hL.out, hK.out] at cl
    have cn := Lib.hid fun A c W => append_new A c a0 W h1 h2
    rw [hL.out] at cn
    have haa : (a0 == a0) = true := by simp
    have hKK : ((K : Int) == (K : Int)) = true := by simp
    have x0 : Nx w (w.alloc (.cells #[] 5)) := (Nx.refl w).alloc _
    go_enter Tryd.func3, Tryd.ntmps3
    go_wp2_with (go_at_call 7; refine (good_any _ _).mono ?_; rintro e w' ⟨rfl, rfl⟩)
    refine (cn.out _ _ _).mono ?_
    rintro e w1 ⟨A1, n1, c1, rfl, o1, l1, p1, q1, g1, x1⟩
    have y1 := x0.trans x1
    have hn1 : n1 = K := l1.out.trans hK.out
    subst hn1
    have s1 : By w1 A1 n1 L := o1.sl
    go_wp2_with fail
    refine (decode_any _ _ _ L _ (hT.next y1) s1).mono ?_
    rw [hd.out]
    simp only
    rw [HA.out]
    rintro e w2 ⟨rfl, x2⟩
    have y2 := y1.trans x2
    have s2 := s1.next x2
    go_wp2_with fail
    refine (last_any _ _ _ L _ (hT.next y2) s2 g1 (by omega)).mono ?_
    rw [hl.out]
    simp only
    rw [HA.out]
    rintro e w3 ⟨rfl, x3⟩
    have y3 := y2.trans x3
    have s3 := s2.next x3
    go_wp2_with (go_at_call 11; refine (cl.out _).mono ?_; rintro e w' ⟨rfl, rfl⟩)
    refine (valid_any _ _ _ L _ (hT.next y3) s3 g1 (by omega)).mono ?_
    rw [hv.out]
    rintro e w4 ⟨rfl, x4⟩
    have y4 := y3.trans x4
    have s4 := s3.next x4
    go_wp2_with fail
    refine (fullR_any _ _ _ L _ (hT.next y4) s4 (by omega)).mono ?_
    rw [hf.out]
    rintro e w5 ⟨rfl, x5⟩
    have y5 := y4.trans x5
    go_wp2_with fail
    refine (count_any _ _ _ L _ (s4.next x5) g1 (by omega)).mono ?_
    rw [hc.out]
    rintro e w6 ⟨rfl, x6⟩
    go_wp2_with fail
    go_ret
    exact ⟨rfl, y5.trans x6⟩
namespace fnRoundTrip
open Go.ChangeShapes Go.WideShapes Go.ChangeAt Go.RowKit
open Go.ChangeMaps (open_string shut_string)
set_option maxRecDepth 100000 in
set_option linter.unusedVariables false in
theorem laid_met (os : Os) : laidMet Tryd.prog Rows.fnRoundTripRow.laid ((laidWorld os).forCall (fun _ _ => 0) ⟨#[], #[.int .i32 0], []⟩).memory :=
  laidMet_of_run' 8 (by kernel_rfl) (by kernel_rfl)
theorem reads (os : Os) {H : Type} (enc : TypeId × Value → H) : ∃ places, DataW.whole enc Tryd.prog ((laidWorld os).forCall (fun _ _ => 0) ⟨#[], #[.int .i32 0], []⟩).memory Tryd.f3.params.toList Rows.fnRoundTripSpec.vars false (#[.int .i32 0] : Array Value).toList 8 = some ([.lit (.int .i32 0)], [], places) :=
  ⟨[], by kernel_rfl⟩
set_option maxRecDepth 100000 in
set_option linter.unusedVariables false in
theorem lifted (os : Os) (started : os.Started) (H : Type) (enc : TypeId × Value → H) (F : Stop.Interp) :
    ReturnsInHanded {} Tryd.checked os 3 .any ((OpenSpec.ofChange Rows.fnRoundTripSpec).preRow enc Tryd.prog Tryd.f3 Rows.fnRoundTripRow.domain false Rows.fnRoundTripRow.laid) (((OpenSpec.ofChange Rows.fnRoundTripSpec).at F).post enc Tryd.prog Tryd.f3 false true false false) := by
  obtain ⟨places, hx⟩ := reads os enc
  refine returnsInHanded_of_row (C := Tryd.checked) (s := (OpenSpec.ofChange Rows.fnRoundTripSpec)) own started (by kernel_rfl) Tryd.func3
    (witness_row_at (enc := enc) (C := Tryd.checked) false (laidWorld os) #[.int .i32 0] rfl (by kernel_rfl) (by kernel_rfl) (by kernel_rfl)
      (OpenSpec.preRow_of_cond 8 hx (by kernel_rfl) (fun k hk => by cases hk) (by kernel_rfl) (laid_met os))) ?_
  intro W base args ds gs before hval0 hW _ hkk hsz0 hL _ _
  have hsz : (DataW.weightsEach Tryd.prog (Tryd.f3.params.toList ++ (OpenSpec.ofChange Rows.fnRoundTripSpec).bare.plain.varTypes Tryd.prog) (ds ++ gs)).all (· ≤ reachBytes) = true := hsz0
  rw [Tryd.params3] at hsz
  have hval : ∀ (j : Nat) t v, Tryd.f3.params[j]? = some t → args[j]? = some v → Value.okWide Tryd.prog W .any base t v := hval0
  have hW' := hW
  obtain ⟨p, q, hA0, hV, rfl, hfz, hnd⟩ := hW
  have hA : DataW.TrodAll enc Tryd.prog W 0 (fun _ => true) true Tryd.f3.params.toList args.toList ds p := hA0
  rw [Tryd.params3] at hA hval
  obtain ⟨v0, vs0, d0, ds0, p0, q0, hargs, rfl, rfl, h0, r0⟩ := trodAll_cons hA
  obtain ⟨rfl, rfl, rfl⟩ := trodAll_nil r0
  obtain rfl : args = #[v0] := by cases args; simp_all
  obtain ⟨rfl, rfl⟩ := trodVars_none hV
  have k0 := h0
  have lt0 : ∀ x ∈ p0, x.block < W.heap.size := by obtain ⟨m, hm⟩ := k0; exact DataW.trod_lt m _ _ _ hm
  obtain ⟨a0, rfl, rfl, rfl, w0⟩ := open_int Tryd.underlying21 (hval 0 21 v0 rfl rfl) h0
  have b0 : -2147483648 ≤ a0 ∧ a0 ≤ 2147483647 := by simpa [Lit.wf, IntKind.min, IntKind.max, IntKind.signed, IntKind.bits] using w0
  clear hA0 hval0
  refine (fnRoundTrip_walk a0 W (tabs hL) b0).mono fun e W' ⟨he, bel⟩ => ?_
  subst he
  exact ⟨_, rfl, _, _, _, [], _, [], hW', trodAll_mk1 (shut_bool Tryd.underlying4 _), (trodAll_cons_mk (shut_int Tryd.underlying21 w0) trodAll_mk0), rfl, bel.out.frame _, fun h => by cases h⟩
theorem row : Rows.FnRoundTripSaid :=
  OpenClaim.holds_of_cond 3 Tryd.f3 rfl rfl rfl rfl rfl rfl rfl ⟨rfl, rfl, rfl, rfl, rfl⟩ rfl rfl rfl rfl rfl (by kernel_rfl) Tryd.func3 (by kernel_rfl)
    (of_decide_eq_true (by kernel_rfl)) (by unfold Func.isWrapper; first | (rw [if_pos (by decide +kernel)]; kernel_rfl) | (rw [if_neg (by decide +kernel)]; exact ⟨rfl, rfl⟩))
    (fun os started H enc _ F => by rw [OpenClaim.pre_eq_preRow]; exact lifted os started H enc F)
theorem plain (f : FuncId) (fn : Func) (hf : Tryd.pinned.checked.prog.funcNamed Rows.fnRoundTripRow.func = some f) (hfn : Tryd.pinned.checked.prog.funcs[f]? = some fn) :
    false = Tryd.pinned.checked.prog.looks [] ∧ ∀ (j : Nat) t, fn.params[j]? = some t → Tryd.pinned.checked.prog.wantsStandIn t = false := by
  obtain rfl : f = 3 := Option.some.inj ((show Tryd.prog.funcNamed Rows.fnRoundTripRow.func = some 3 by kernel_rfl).symm.trans hf) |>.symm
  obtain rfl : fn = Tryd.f3 := (Option.some.inj (Tryd.func3.symm.trans hfn)).symm
  refine ⟨by kernel_rfl, fun j t ht => ?_⟩
  rw [Tryd.params3] at ht
  have hm := Array.mem_of_getElem? ht
  have hor : t = 21 := by simp at hm; omega
  subst hor
  exact (show Tryd.prog.wantsStandIn 21 = false by kernel_rfl)
theorem said : Rows.FnRoundTripCardSaid :=
  Claim7.holds_tied_plain_at .later [] _ _ _ _ row (fun _ h => by cases h) (by kernel_rfl) (fun _ h => by cases h) fnRoundTrip_row_tie rfl ⟨rfl, rfl⟩ (by kernel_rfl) rfl plain (by kernel_rfl)
end fnRoundTrip
end Go.Proofs.YtelejafniamgiaaDoor
