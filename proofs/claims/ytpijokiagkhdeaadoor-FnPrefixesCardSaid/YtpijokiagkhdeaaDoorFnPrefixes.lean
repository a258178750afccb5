/- FnPrefixes: no proper beginning of an encoding is a full rune or valid; it is decoded byte by byte. The tables are those that the program lays. -/
import Derived.Test.YtpijokiagkhdeaaDoorFrame
import Derived.Test.YtpijokiagkhdeaaDoorDecodeU
import Derived.Test.YtpijokiagkhdeaaDoorValidU
import Derived.Test.YtpijokiagkhdeaaDoorFullI
import Derived.Test.YtpijokiagkhdeaaDoorCount
import Derived.Test.YtpijokiagkhdeaaDoorRune
import Derived.Test.YtpijokiagkhdeaaDoorAppend
import Derived.Test.YtpijokiagkhdeaaDoorPlainF
namespace Go.Proofs.YtpijokiagkhdeaaDoor
open Go.RowKit Go.Lib
set_option linter.unusedVariables false
set_option maxRecDepth 100000 in
set_option maxHeartbeats 2000000 in
theorem fnPrefixes_walk (a0 : Int) (w : World) (hT : Tabs w) (b0 : -2147483648 ≤ a0 ∧ a0 ≤ 2147483647) :
    Calls Tryd.prog 11 #[.int .i32 a0] w fun e w' => e = .returned (.bool true) ∧ Nx w w' := by
  obtain ⟨h1, h2⟩ := b0
  cases hg : goodB a0 with
  | false =>
    go_enter Tryd.func11, Tryd.ntmps11
    go_wp2_with (go_at_call 20; refine (good_any _ _).mono ?_; rintro e w' ⟨rfl, rfl⟩)
    go_ret
    exact ⟨rfl, Nx.refl _⟩
  | true =>
    have x0 : Nx w (w.alloc (.cells #[] 5)) := (Nx.refl w).alloc _
    have HG := Lib.hid hg
    have cl := Lib.hid fun w => len_any a0 w
    rw [lenZ_good hg] at cl
    go_enter Tryd.func11, Tryd.ntmps11
    go_wp2_with (go_at_call 20; refine (good_any _ _).mono ?_; rintro e w' ⟨rfl, rfl⟩)
    refine (append_new _ _ a0 _ h1 h2).mono ?_
    rintro e w1 ⟨A1, n1, c1, rfl, o1, l1, p1, q1, g1, x1⟩
    have y1 := x0.trans x1
    have s1 : By w1 A1 n1 (encodeRune a0) := o1.sl
    rw [← l1.out] at cl
    have zz : ((n1 : Int) != (n1 : Int)) = false := by simp
    have z0 : ((n1 : Int) == 0) = false := by simp; omega
    clear o1 hg
    go_wp2_with (go_at_call 32; refine (cl.out _).mono ?_; rintro e w' ⟨rfl, rfl⟩)
    go_loopw [4] (fun i wr => ∃ k : Nat, 1 ≤ k ∧ k ≤ n1 ∧ i = .int .i64 k ∧ Nx w1 wr) (fun i _ => n1 - (RowKit.intOf i).toNat)
    case atStart => exact ⟨1, Nat.le_refl _, p1, rfl, Nx.refl _⟩
    case round =>
      obtain ⟨k, k1, hk, rfl, hnx⟩ := hrel
      by_cases hlt : k < n1
      · obtain ⟨t1, t2, t3, t4⟩ := pre_take HG.out k k1 (by rw [← l1.out]; exact hlt)
        obtain ⟨Q, hQ⟩ : ∃ Q, Hid ((encodeRune a0).take k = Q) := ⟨_, rfl⟩
        have sq := By.upto (j := k) s1 (by omega)
        rw [hQ.out] at t1 t2 t3 t4 sq
        have T2 := Lib.hid t2
        have T3 := Lib.hid t3
        have T4 := Lib.hid t4
        have TF : Hid (fullB Q = false) := by
          show _ = _
          rw [full_eq Q (by intro h; rw [h] at t1; cases t1), t1]
          rfl
        have hup := fun W => run_upto (P := Tryd.prog) 30 5 Tryd.underlying30 (fun _ => by kernel_rfl) A1 n1 c1 .i64 (k : Int) k rfl (by omega) W
        have zk : ((k : Int) != (k : Int)) = false := by simp
        clear t1 t2 t3 t4
        have y := y1.trans hnx
        go_wp2_with fail
        refine (decode_any _ _ _ Q _ (hT.next y) (sq.next hnx)).mono ?_
        rw [T2.out]
        rintro e w2 ⟨rfl, x2⟩
        have n2 := hnx.trans x2
        go_wp2_with fail
        refine (fullR_any _ _ _ Q _ (hT.next (y1.trans n2)) (sq.next n2) (by omega)).mono ?_
        rw [TF.out]
        rintro e w3 ⟨rfl, x3⟩
        have n3 := n2.trans x3
        go_wp2_with fail
        refine (valid_any _ _ _ Q _ (hT.next (y1.trans n3)) (sq.next n3) (by omega) (by omega)).mono ?_
        rw [T3.out]
        rintro e w4 ⟨rfl, x4⟩
        have n4 := n3.trans x4
        go_wp2_with fail
        refine (count_any _ _ _ Q _ (sq.next n4) (by omega) (by omega)).mono ?_
        rw [T4.out]
        rintro e w5 ⟨rfl, x5⟩
        go_wp2_with fail
        go_roundw
        case rel => exact ⟨k + 1, by omega, by omega, by go_num, n4.trans x5⟩
        case measure => simp [RowKit.intOf]; omega
      · go_wp2_with fail
        go_ret
        exact ⟨rfl, y1.trans hnx⟩
namespace fnPrefixes
open Go.ChangeShapes Go.WideShapes Go.ChangeAt Go.RowKit
open Go.ChangeMaps (open_string shut_string)
set_option maxRecDepth 100000 in
set_option linter.unusedVariables false in
theorem laid_met (os : Os) : laidMet Tryd.prog Rows.fnPrefixesRow.laid ((laidWorld os).forCall (fun _ _ => 0) ⟨#[], #[.int .i32 0], []⟩).memory :=
  laidMet_of_run' 8 (by kernel_rfl) (by kernel_rfl)
theorem reads (os : Os) {H : Type} (enc : TypeId × Value → H) : ∃ places, DataW.whole enc Tryd.prog ((laidWorld os).forCall (fun _ _ => 0) ⟨#[], #[.int .i32 0], []⟩).memory Tryd.f11.params.toList Rows.fnPrefixesSpec.vars false (#[.int .i32 0] : Array Value).toList 8 = some ([.lit (.int .i32 0)], [], places) :=
  ⟨[], by kernel_rfl⟩
set_option maxRecDepth 100000 in
set_option linter.unusedVariables false in
theorem lifted (os : Os) (started : os.Started) (H : Type) (enc : TypeId × Value → H) (F : Stop.Interp) :
    ReturnsInHanded {} Tryd.checked os 11 .any ((OpenSpec.ofChange Rows.fnPrefixesSpec).preRow enc Tryd.prog Tryd.f11 Rows.fnPrefixesRow.domain false Rows.fnPrefixesRow.laid) (((OpenSpec.ofChange Rows.fnPrefixesSpec).at F).post enc Tryd.prog Tryd.f11 false true false false) := by
  obtain ⟨places, hx⟩ := reads os enc
  refine returnsInHanded_of_row (C := Tryd.checked) (s := (OpenSpec.ofChange Rows.fnPrefixesSpec)) own started (by kernel_rfl) Tryd.func11
    (witness_row_at (enc := enc) (C := Tryd.checked) false (laidWorld os) #[.int .i32 0] rfl (by kernel_rfl) (by kernel_rfl) (by kernel_rfl)
      (OpenSpec.preRow_of_cond 8 hx (by kernel_rfl) (fun k hk => by cases hk) (by kernel_rfl) (laid_met os))) ?_
  intro W base args ds gs before hval0 hW _ hkk hsz0 hL _ _
  have hsz : (DataW.weightsEach Tryd.prog (Tryd.f11.params.toList ++ (OpenSpec.ofChange Rows.fnPrefixesSpec).bare.plain.varTypes Tryd.prog) (ds ++ gs)).all (· ≤ reachBytes) = true := hsz0
  rw [Tryd.params11] at hsz
  have hval : ∀ (j : Nat) t v, Tryd.f11.params[j]? = some t → args[j]? = some v → Value.okWide Tryd.prog W .any base t v := hval0
  have hW' := hW
  obtain ⟨p, q, hA0, hV, rfl, hfz, hnd⟩ := hW
  have hA : DataW.TrodAll enc Tryd.prog W 0 (fun _ => true) true Tryd.f11.params.toList args.toList ds p := hA0
  rw [Tryd.params11] at hA hval
  obtain ⟨v0, vs0, d0, ds0, p0, q0, hargs, rfl, rfl, h0, r0⟩ := trodAll_cons hA
  obtain ⟨rfl, rfl, rfl⟩ := trodAll_nil r0
  obtain rfl : args = #[v0] := by cases args; simp_all
  obtain ⟨rfl, rfl⟩ := trodVars_none hV
  have k0 := h0
  have lt0 : ∀ x ∈ p0, x.block < W.heap.size := by obtain ⟨m, hm⟩ := k0; exact DataW.trod_lt m _ _ _ hm
  obtain ⟨a0, rfl, rfl, rfl, w0⟩ := open_int Tryd.underlying21 (hval 0 21 v0 rfl rfl) h0
  have b0 : -2147483648 ≤ a0 ∧ a0 ≤ 2147483647 := by simpa [Lit.wf, IntKind.min, IntKind.max, IntKind.signed, IntKind.bits] using w0
  clear hA0 hval0
  refine (fnPrefixes_walk a0 W (tabs hL) b0).mono fun e W' ⟨he, bel⟩ => ?_
  subst he
  exact ⟨_, rfl, _, _, _, [], _, [], hW', trodAll_mk1 (shut_bool Tryd.underlying4 _), (trodAll_cons_mk (shut_int Tryd.underlying21 w0) trodAll_mk0), rfl, bel.out.frame _, fun h => by cases h⟩
theorem row : Rows.FnPrefixesSaid :=
  OpenClaim.holds_of_cond 11 Tryd.f11 rfl rfl rfl rfl rfl rfl rfl ⟨rfl, rfl, rfl, rfl, rfl⟩ rfl rfl rfl rfl rfl (by kernel_rfl) Tryd.func11 (by kernel_rfl)
    (of_decide_eq_true (by kernel_rfl)) (by unfold Func.isWrapper; first | (rw [if_pos (by decide +kernel)]; kernel_rfl) | (rw [if_neg (by decide +kernel)]; exact ⟨rfl, rfl⟩))
    (fun os started H enc _ F => by rw [OpenClaim.pre_eq_preRow]; exact lifted os started H enc F)
theorem plain (f : FuncId) (fn : Func) (hf : Tryd.pinned.checked.prog.funcNamed Rows.fnPrefixesRow.func = some f) (hfn : Tryd.pinned.checked.prog.funcs[f]? = some fn) :
    false = Tryd.pinned.checked.prog.looks [] ∧ ∀ (j : Nat) t, fn.params[j]? = some t → Tryd.pinned.checked.prog.wantsStandIn t = false := by
  obtain rfl : f = 11 := Option.some.inj ((show Tryd.prog.funcNamed Rows.fnPrefixesRow.func = some 11 by kernel_rfl).symm.trans hf) |>.symm
  obtain rfl : fn = Tryd.f11 := (Option.some.inj (Tryd.func11.symm.trans hfn)).symm
  refine ⟨by kernel_rfl, fun j t ht => ?_⟩
  rw [Tryd.params11] at ht
  have hm := Array.mem_of_getElem? ht
  have hor : t = 21 := by simp at hm; omega
  subst hor
  exact (show Tryd.prog.wantsStandIn 21 = false by kernel_rfl)
theorem said : Rows.FnPrefixesCardSaid :=
  Claim7.holds_tied_plain_at .later [] _ _ _ _ row (fun _ h => by cases h) (by kernel_rfl) (fun _ h => by cases h) fnPrefixes_row_tie rfl ⟨rfl, rfl⟩ (by kernel_rfl) rfl plain (by kernel_rfl)
end fnPrefixes
end Go.Proofs.YtpijokiagkhdeaaDoor
