/- FnCanEncode: a rune can be encoded just if RuneLen is not -1, and just if what AppendRune writes is decoded to it. The tables are those that the program lays. -/
import Derived.Test.YtcgpnmlemjldaaaDoorFrame
import Derived.Test.YtcgpnmlemjldaaaDoorDecodeU
import Derived.Test.YtcgpnmlemjldaaaDoorRune
import Derived.Test.YtcgpnmlemjldaaaDoorAppend
import Derived.Test.YtcgpnmlemjldaaaDoorPlainE
namespace Go.Proofs.YtcgpnmlemjldaaaDoor
open Go.RowKit Go.Lib
set_option linter.unusedVariables false
set_option maxRecDepth 100000 in
set_option maxHeartbeats 1000000 in
theorem fnCanEncode_walk (a0 : Int) (w : World) (hT : Tabs w) (b0 : -2147483648 ≤ a0 ∧ a0 ≤ 2147483647) :
    Calls Tryd.prog 4 #[.int .i32 a0] w fun e w' => e = .returned (.bool true) ∧ Nx w w' := by
  obtain ⟨h1, h2⟩ := b0
  have x0 : Nx w (w.alloc (.cells #[] 5)) := (Nx.refl w).alloc _
  cases hg : goodB a0 with
  | true =>
    have hd : Hid (dec (encodeRune a0) = (a0.toNat, (encodeRune a0).length)) := by show _ = _; rw [dec_of (enc_ne _), dec_enc' hg]
    have ha : Hid ((a0.toNat : Int) = a0) := by show _ = _; have := hg; rw [goodB_iff] at this; omega
    have cv := Lib.hid fun w => validRune_any a0 w
    rw [hg] at cv
    have hl := lenZ_good hg
    have cl := Lib.hid fun w => len_any a0 w
    rw [hl] at cl
    clear hl hg
    have haa : (a0 == a0) = true := by simp
    go_enter Tryd.func4, Tryd.ntmps4
    go_wp2_with fail
    refine (append_new _ _ a0 _ h1 h2).mono ?_
    rintro e w1 ⟨A1, n1, c1, rfl, o1, l1, p1, q1, g1, x1⟩
    have y1 := x0.trans x1
    go_wp2_with fail
    refine (decode_any _ _ _ (encodeRune a0) _ (hT.next y1) o1.sl).mono ?_
    rw [hd.out]
    simp only
    rw [ha.out, ← l1.out]
    rintro e w2 ⟨rfl, x2⟩
    have y2 := y1.trans x2
    have z1 : ((n1 : Int) != -1) = true := by simp <;> omega
    have z2 : ((n1 : Int) == (n1 : Int)) = true := by simp
    rw [← l1.out] at cl
    go_wp2_with fail
    refine (cv.out _).mono ?_
    rintro e w' ⟨rfl, rfl⟩
    go_wp2_with (go_at_call 19; refine (cl.out _).mono ?_; rintro e w' ⟨rfl, rfl⟩)
    go_ret
    exact ⟨rfl, y2⟩
  | false =>
    have he := Lib.hid (enc_bad hg)
    have hd : Hid (dec (encodeRune a0) = (65533, 3)) := by show _ = _; rw [he.out]; decide
    have l3 : Hid ((encodeRune a0).length = 3) := by show _ = _; rw [he.out]; decide
    have cv := Lib.hid fun w => validRune_any a0 w
    rw [hg] at cv
    have hl := lenZ_bad hg
    have cl := Lib.hid fun w => len_any a0 w
    rw [hl] at cl
    have hne : ((65533 : Int) == a0) = false := by
      simp only [beq_eq_false_iff_ne]
      intro h
      rw [← h] at hg
      revert hg
      decide
    clear hl hg
    go_enter Tryd.func4, Tryd.ntmps4
    go_wp2_with fail
    refine (append_new _ _ a0 _ h1 h2).mono ?_
    rintro e w1 ⟨A1, n1, c1, rfl, o1, l1, p1, q1, g1, x1⟩
    have y1 := x0.trans x1
    have e3 : n1 = 3 := l1.out.trans l3.out
    subst e3
    go_wp2_with fail
    refine (decode_any _ _ _ (encodeRune a0) _ (hT.next y1) o1.sl).mono ?_
    rw [hd.out]
    rintro e w2 ⟨rfl, x2⟩
    have y2 := y1.trans x2
    go_wp2_with fail
    refine (cv.out _).mono ?_
    rintro e w' ⟨rfl, rfl⟩
    go_wp2_with (go_at_call 19; refine (cl.out _).mono ?_; rintro e w' ⟨rfl, rfl⟩)
    go_ret
    exact ⟨rfl, y2⟩
namespace fnCanEncode
open Go.ChangeShapes Go.WideShapes Go.ChangeAt Go.RowKit
open Go.ChangeMaps (open_string shut_string)
set_option maxRecDepth 100000 in
set_option linter.unusedVariables false in
theorem laid_met (os : Os) : laidMet Tryd.prog Rows.fnCanEncodeRow.laid ((laidWorld os).forCall (fun _ _ => 0) ⟨#[], #[.int .i32 0], []⟩).memory :=
  laidMet_of_run' 8 (by kernel_rfl) (by kernel_rfl)
theorem reads (os : Os) {H : Type} (enc : TypeId × Value → H) : ∃ places, DataW.whole enc Tryd.prog ((laidWorld os).forCall (fun _ _ => 0) ⟨#[], #[.int .i32 0], []⟩).memory Tryd.f4.params.toList Rows.fnCanEncodeSpec.vars false (#[.int .i32 0] : Array Value).toList 8 = some ([.lit (.int .i32 0)], [], places) :=
  ⟨[], by kernel_rfl⟩
set_option maxRecDepth 100000 in
set_option linter.unusedVariables false in
theorem lifted (os : Os) (started : os.Started) (H : Type) (enc : TypeId × Value → H) (F : Stop.Interp) :
    ReturnsInHanded {} Tryd.checked os 4 .any ((OpenSpec.ofChange Rows.fnCanEncodeSpec).preRow enc Tryd.prog Tryd.f4 Rows.fnCanEncodeRow.domain false Rows.fnCanEncodeRow.laid) (((OpenSpec.ofChange Rows.fnCanEncodeSpec).at F).post enc Tryd.prog Tryd.f4 false true false false) := by
  obtain ⟨places, hx⟩ := reads os enc
  refine returnsInHanded_of_row (C := Tryd.checked) (s := (OpenSpec.ofChange Rows.fnCanEncodeSpec)) own started (by kernel_rfl) Tryd.func4
    (witness_row_at (enc := enc) (C := Tryd.checked) false (laidWorld os) #[.int .i32 0] rfl (by kernel_rfl) (by kernel_rfl) (by kernel_rfl)
      (OpenSpec.preRow_of_cond 8 hx (by kernel_rfl) (fun k hk => by cases hk) (by kernel_rfl) (laid_met os))) ?_
  intro W base args ds gs before hval0 hW _ hkk hsz0 hL _ _
  have hsz : (DataW.weightsEach Tryd.prog (Tryd.f4.params.toList ++ (OpenSpec.ofChange Rows.fnCanEncodeSpec).bare.plain.varTypes Tryd.prog) (ds ++ gs)).all (· ≤ reachBytes) = true := hsz0
  rw [Tryd.params4] at hsz
  have hval : ∀ (j : Nat) t v, Tryd.f4.params[j]? = some t → args[j]? = some v → Value.okWide Tryd.prog W .any base t v := hval0
  have hW' := hW
  obtain ⟨p, q, hA0, hV, rfl, hfz, hnd⟩ := hW
  have hA : DataW.TrodAll enc Tryd.prog W 0 (fun _ => true) true Tryd.f4.params.toList args.toList ds p := hA0
  rw [Tryd.params4] at hA hval
  obtain ⟨v0, vs0, d0, ds0, p0, q0, hargs, rfl, rfl, h0, r0⟩ := trodAll_cons hA
  obtain ⟨rfl, rfl, rfl⟩ := trodAll_nil r0
  obtain rfl : args = #[v0] := by cases args; simp_all
  obtain ⟨rfl, rfl⟩ := trodVars_none hV
  have k0 := h0
  have lt0 : ∀ x ∈ p0, x.block < W.heap.size := by obtain ⟨m, hm⟩ := k0; exact DataW.trod_lt m _ _ _ hm
  obtain ⟨a0, rfl, rfl, rfl, w0⟩ := open_int Tryd.underlying21 (hval 0 21 v0 rfl rfl) h0
  have b0 : -2147483648 ≤ a0 ∧ a0 ≤ 2147483647 := by simpa [Lit.wf, IntKind.min, IntKind.max, IntKind.signed, IntKind.bits] using w0
  clear hA0 hval0
  refine (fnCanEncode_walk a0 W (tabs hL) b0).mono fun e W' ⟨he, bel⟩ => ?_
  subst he
  exact ⟨_, rfl, _, _, _, [], _, [], hW', trodAll_mk1 (shut_bool Tryd.underlying4 _), (trodAll_cons_mk (shut_int Tryd.underlying21 w0) trodAll_mk0), rfl, bel.out.frame _, fun h => by cases h⟩
theorem row : Rows.FnCanEncodeSaid :=
  OpenClaim.holds_of_cond 4 Tryd.f4 rfl rfl rfl rfl rfl rfl rfl ⟨rfl, rfl, rfl, rfl, rfl⟩ rfl rfl rfl rfl rfl (by kernel_rfl) Tryd.func4 (by kernel_rfl)
    (of_decide_eq_true (by kernel_rfl)) (by unfold Func.isWrapper; first | (rw [if_pos (by decide +kernel)]; kernel_rfl) | (rw [if_neg (by decide +kernel)]; exact ⟨rfl, rfl⟩))
    (fun os started H enc _ F => by rw [OpenClaim.pre_eq_preRow]; exact lifted os started H enc F)
theorem plain (f : FuncId) (fn : Func) (hf : Tryd.pinned.checked.prog.funcNamed Rows.fnCanEncodeRow.func = some f) (hfn : Tryd.pinned.checked.prog.funcs[f]? = some fn) :
    false = Tryd.pinned.checked.prog.looks [] ∧ ∀ (j : Nat) t, fn.params[j]? = some t → Tryd.pinned.checked.prog.wantsStandIn t = false := by
  obtain rfl : f = 4 := Option.some.inj ((show Tryd.prog.funcNamed Rows.fnCanEncodeRow.func = some 4 by kernel_rfl).symm.trans hf) |>.symm
  obtain rfl : fn = Tryd.f4 := (Option.some.inj (Tryd.func4.symm.trans hfn)).symm
  refine ⟨by kernel_rfl, fun j t ht => ?_⟩
  rw [Tryd.params4] at ht
  have hm := Array.mem_of_getElem? ht
  have hor : t = 21 := by simp at hm; omega
  subst hor
  exact (show Tryd.prog.wantsStandIn 21 = false by kernel_rfl)
theorem said : Rows.FnCanEncodeCardSaid :=
  Claim7.holds_tied_plain_at .later [] _ _ _ _ row (fun _ h => by cases h) (by kernel_rfl) (fun _ h => by cases h) fnCanEncode_row_tie rfl ⟨rfl, rfl⟩ (by kernel_rfl) rfl plain (by kernel_rfl)
end fnCanEncode
end Go.Proofs.YtcgpnmlemjldaaaDoor
