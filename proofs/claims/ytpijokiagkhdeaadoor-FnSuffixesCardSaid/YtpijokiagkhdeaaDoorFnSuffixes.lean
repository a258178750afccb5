/- FnSuffixes: no proper end of an encoding is valid: each of its bytes is decoded by itself, from both ends, and none of them can be a first one. The tables are those that the program lays. -/
import Derived.Test.YtpijokiagkhdeaaDoorFrame
import Derived.Test.YtpijokiagkhdeaaDoorDecodeU
import Derived.Test.YtpijokiagkhdeaaDoorValidU
import Derived.Test.YtpijokiagkhdeaaDoorCount
import Derived.Test.YtpijokiagkhdeaaDoorStart
import Derived.Test.YtpijokiagkhdeaaDoorGood
import Derived.Test.YtpijokiagkhdeaaDoorAppend
import Derived.Test.YtpijokiagkhdeaaDoorPlainF
namespace Go.Proofs.YtpijokiagkhdeaaDoor
open Go.RowKit Go.Lib
set_option linter.unusedVariables false
set_option maxRecDepth 100000 in
set_option maxHeartbeats 2000000 in
theorem fnSuffixes_walk (a0 : Int) (w : World) (hT : Tabs w) (b0 : -2147483648 ≤ a0 ∧ a0 ≤ 2147483647) :
    Calls Tryd.prog 8 #[.int .i32 a0] w fun e w' => e = .returned (.bool true) ∧ Nx w w' := by
  obtain ⟨h1, h2⟩ := b0
  cases hg : goodB a0 with
  | false =>
    go_enter Tryd.func8, Tryd.ntmps8
    go_wp2_with (go_at_call 20; refine (good_any _ _).mono ?_; rintro e w' ⟨rfl, rfl⟩)
    go_ret
    exact ⟨rfl, Nx.refl _⟩
  | true =>
    have x0 : Nx w (w.alloc (.cells #[] 5)) := (Nx.refl w).alloc _
    have HG := Lib.hid hg
    go_enter Tryd.func8, Tryd.ntmps8
    go_wp2_with (go_at_call 20; refine (good_any _ _).mono ?_; rintro e w' ⟨rfl, rfl⟩)
    refine (append_new _ _ a0 _ h1 h2).mono ?_
    rintro e w1 ⟨A1, n1, c1, rfl, o1, l1, p1, q1, g1, x1⟩
    have y1 := x0.trans x1
    have s1 : By w1 A1 n1 (encodeRune a0) := o1.sl
    have z0 : ((n1 : Int) == 0) = false := by simp; omega
    obtain ⟨b, off, rfl, hb, hcell⟩ := s1.open_ (by omega)
    have HC := Lib.hid hcell
    obtain ⟨u, hu⟩ : ∃ u : Int, Hid ((((encodeRune a0).getD 0 0).toNat : Int) = u) := ⟨_, rfl⟩
    have k0 := hcell 0 (by omega)
    rw [hu.out, Nat.add_zero] at k0
    have hst : startB u = true := by
      rw [← hu.out, start_byte]
      exact decide_eq_true (enc_head HG.out)
    have u0 : 0 ≤ u := by rw [← hu.out]; omega
    have u1 : u ≤ 255 := by rw [← hu.out]; have := ((encodeRune a0).getD 0 0).toNat_lt; omega
    have cs := Lib.hid fun w => start_any u w u0 u1
    rw [hst] at cs
    have i0 : (0 : Int) < (n1 : Int) := by omega
    clear o1 hg hcell hst
    go_wp2_with (go_at_call 33; refine (cs.out _).mono ?_; rintro e w' ⟨rfl, rfl⟩)
    go_loopw [4] (fun i wr => ∃ k : Nat, 1 ≤ k ∧ k ≤ n1 ∧ i = .int .i64 k ∧ Nx w1 wr) (fun i _ => n1 - (RowKit.intOf i).toNat)
    case atStart => exact ⟨1, Nat.le_refl _, p1, rfl, Nx.refl _⟩
    case round =>
      obtain ⟨k, k1, hk, rfl, hnx⟩ := hrel
      by_cases hlt : k < n1
      · obtain ⟨t1, t2, t3, t4⟩ := suf_drop HG.out k k1 (by rw [← l1.out]; exact hlt)
        rw [← l1.out] at t4
        obtain ⟨Q, hQ⟩ : ∃ Q, Hid ((encodeRune a0).drop k = Q) := ⟨_, rfl⟩
        have sq := By.from_ (i := k) (cap := c1) s1 (by omega) g1
        rw [hQ.out] at t1 t2 t3 t4 sq
        have T1 := Lib.hid t1
        have T2 := Lib.hid t2
        have T3 := Lib.hid t3
        have T4 := Lib.hid t4
        obtain ⟨v, hv⟩ : ∃ v : Int, Hid ((((encodeRune a0).getD k 0).toNat : Int) = v) := ⟨_, rfl⟩
        have hsv : startB v = false := by
          rw [← hv.out, start_byte]
          exact decide_eq_false (by have := enc_tail HG.out k k1 (by rw [← l1.out]; exact hlt); omega)
        have v0 : 0 ≤ v := by rw [← hv.out]; omega
        have v1 : v ≤ 255 := by rw [← hv.out]; have := ((encodeRune a0).getD k 0).toNat_lt; omega
        have cv := Lib.hid fun w => start_any v w v0 v1
        rw [hsv] at cv
        have QK : Hid (∀ w3, Nx w1 w3 → w3.cell? ⟨b, off + k, none⟩ = some (.int .u8 v)) := fun w3 h => by rw [h.cell (p := ⟨b, off + k, none⟩) hb, HC.out k hlt, hv.out]
        have hcut := fun W => run_cut (P := Tryd.prog) 30 5 Tryd.underlying30 (fun _ => by kernel_rfl) (some ⟨b, off, none⟩) n1 c1 .i64 (k : Int) k rfl (by omega) W
        have zk : (((n1 - k : Nat) : Int) != (n1 : Int) - (k : Int)) = false := by simp; omega
        have i1 : (k : Int) < (n1 : Int) := by omega
        clear t1 t2 t3 t4 hsv k0
        have y := y1.trans hnx
        go_wp2_with fail
        refine (decode_any _ _ _ Q _ (hT.next y) (sq.next hnx)).mono ?_
        rw [T1.out]
        rintro e w2 ⟨rfl, x2⟩
        have n2 := hnx.trans x2
        go_wp2_with fail
        refine (last_any _ _ _ Q _ (hT.next (y1.trans n2)) (sq.next n2) (by omega) (by omega)).mono ?_
        rw [T2.out]
        rintro e w3 ⟨rfl, x3⟩
        have n3 := n2.trans x3
        have kk := QK.out w3 n3
        go_wp2_with (go_at_call 33; refine (cv.out _).mono ?_; rintro e w' ⟨rfl, rfl⟩)
        refine (valid_any _ _ _ Q _ (hT.next (y1.trans n3)) (sq.next n3) (by omega) (by omega)).mono ?_
        rw [T3.out]
        rintro e w4 ⟨rfl, x4⟩
        have n4 := n3.trans x4
        go_wp2_with fail
        refine (count_any _ _ _ Q _ (sq.next n4) (by omega) (by omega)).mono ?_
        rw [T4.out]
        rintro e w5 ⟨rfl, x5⟩
        go_wp2_with fail
        go_roundw
        case rel => exact ⟨k + 1, by omega, by omega, by go_num, n4.trans x5⟩
        case measure => simp [RowKit.intOf]; omega
      · go_wp2_with fail
        go_ret
        exact ⟨rfl, y1.trans hnx⟩
namespace fnSuffixes
open Go.ChangeShapes Go.WideShapes Go.ChangeAt Go.RowKit
open Go.ChangeMaps (open_string shut_string)
set_option maxRecDepth 100000 in
set_option linter.unusedVariables false in
theorem laid_met (os : Os) : laidMet Tryd.prog Rows.fnSuffixesRow.laid ((laidWorld os).forCall (fun _ _ => 0) ⟨#[], #[.int .i32 0], []⟩).memory :=
  laidMet_of_run' 8 (by kernel_rfl) (by kernel_rfl)
theorem reads (os : Os) {H : Type} (enc : TypeId × Value → H) : ∃ places, DataW.whole enc Tryd.prog ((laidWorld os).forCall (fun _ _ => 0) ⟨#[], #[.int .i32 0], []⟩).memory Tryd.f8.params.toList Rows.fnSuffixesSpec.vars false (#[.int .i32 0] : Array Value).toList 8 = some ([.lit (.int .i32 0)], [], places) :=
  ⟨[], by kernel_rfl⟩
set_option maxRecDepth 100000 in
set_option linter.unusedVariables false in
theorem lifted (os : Os) (started : os.Started) (H : Type) (enc : TypeId × Value → H) (F : Stop.Interp) :
    ReturnsInHanded {} Tryd.checked os 8 .any ((OpenSpec.ofChange Rows.fnSuffixesSpec).preRow enc Tryd.prog Tryd.f8 Rows.fnSuffixesRow.domain false Rows.fnSuffixesRow.laid) (((OpenSpec.ofChange Rows.fnSuffixesSpec).at F).post enc Tryd.prog Tryd.f8 false true false false) := by
  obtain ⟨places, hx⟩ := reads os enc
  refine returnsInHanded_of_row (C := Tryd.checked) (s := (OpenSpec.ofChange Rows.fnSuffixesSpec)) own started (by kernel_rfl) Tryd.func8
    (witness_row_at (enc := enc) (C := Tryd.checked) false (laidWorld os) #[.int .i32 0] rfl (by kernel_rfl) (by kernel_rfl) (by kernel_rfl)
      (OpenSpec.preRow_of_cond 8 hx (by kernel_rfl) (fun k hk => by cases hk) (by kernel_rfl) (laid_met os))) ?_
  intro W base args ds gs before hval0 hW _ hkk hsz0 hL _ _
  have hsz : (DataW.weightsEach Tryd.prog (Tryd.f8.params.toList ++ (OpenSpec.ofChange Rows.fnSuffixesSpec).bare.plain.varTypes Tryd.prog) (ds ++ gs)).all (· ≤ reachBytes) = true := hsz0
  rw [Tryd.params8] at hsz
  have hval : ∀ (j : Nat) t v, Tryd.f8.params[j]? = some t → args[j]? = some v → Value.okWide Tryd.prog W .any base t v := hval0
  have hW' := hW
  obtain ⟨p, q, hA0, hV, rfl, hfz, hnd⟩ := hW
  have hA : DataW.TrodAll enc Tryd.prog W 0 (fun _ => true) true Tryd.f8.params.toList args.toList ds p := hA0
  rw [Tryd.params8] at hA hval
  obtain ⟨v0, vs0, d0, ds0, p0, q0, hargs, rfl, rfl, h0, r0⟩ := trodAll_cons hA
  obtain ⟨rfl, rfl, rfl⟩ := trodAll_nil r0
  obtain rfl : args = #[v0] := by cases args; simp_all
  obtain ⟨rfl, rfl⟩ := trodVars_none hV
  have k0 := h0
  have lt0 : ∀ x ∈ p0, x.block < W.heap.size := by obtain ⟨m, hm⟩ := k0; exact DataW.trod_lt m _ _ _ hm
  obtain ⟨a0, rfl, rfl, rfl, w0⟩ := open_int Tryd.underlying21 (hval 0 21 v0 rfl rfl) h0
  have b0 : -2147483648 ≤ a0 ∧ a0 ≤ 2147483647 := by simpa [Lit.wf, IntKind.min, IntKind.max, IntKind.signed, IntKind.bits] using w0
  clear hA0 hval0
  refine (fnSuffixes_walk a0 W (tabs hL) b0).mono fun e W' ⟨he, bel⟩ => ?_
  subst he
  exact ⟨_, rfl, _, _, _, [], _, [], hW', trodAll_mk1 (shut_bool Tryd.underlying4 _), (trodAll_cons_mk (shut_int Tryd.underlying21 w0) trodAll_mk0), rfl, bel.out.frame _, fun h => by cases h⟩
theorem row : Rows.FnSuffixesSaid :=
  OpenClaim.holds_of_cond 8 Tryd.f8 rfl rfl rfl rfl rfl rfl rfl ⟨rfl, rfl, rfl, rfl, rfl⟩ rfl rfl rfl rfl rfl (by kernel_rfl) Tryd.func8 (by kernel_rfl)
    (of_decide_eq_true (by kernel_rfl)) (by unfold Func.isWrapper; first | (rw [if_pos (by decide +kernel)]; kernel_rfl) | (rw [if_neg (by decide +kernel)]; exact ⟨rfl, rfl⟩))
    (fun os started H enc _ F => by rw [OpenClaim.pre_eq_preRow]; exact lifted os started H enc F)
theorem plain (f : FuncId) (fn : Func) (hf : Tryd.pinned.checked.prog.funcNamed Rows.fnSuffixesRow.func = some f) (hfn : Tryd.pinned.checked.prog.funcs[f]? = some fn) :
    false = Tryd.pinned.checked.prog.looks [] ∧ ∀ (j : Nat) t, fn.params[j]? = some t → Tryd.pinned.checked.prog.wantsStandIn t = false := by
  obtain rfl : f = 8 := Option.some.inj ((show Tryd.prog.funcNamed Rows.fnSuffixesRow.func = some 8 by kernel_rfl).symm.trans hf) |>.symm
  obtain rfl : fn = Tryd.f8 := (Option.some.inj (Tryd.func8.symm.trans hfn)).symm
  refine ⟨by kernel_rfl, fun j t ht => ?_⟩
  rw [Tryd.params8] at ht
  have hm := Array.mem_of_getElem? ht
  have hor : t = 21 := by simp at hm; omega
  subst hor
  exact (show Tryd.prog.wantsStandIn 21 = false by kernel_rfl)
theorem said : Rows.FnSuffixesCardSaid :=
  Claim7.holds_tied_plain_at .later [] _ _ _ _ row (fun _ h => by cases h) (by kernel_rfl) (fun _ h => by cases h) fnSuffixes_row_tie rfl ⟨rfl, rfl⟩ (by kernel_rfl) rfl plain (by kernel_rfl)
end fnSuffixes
end Go.Proofs.YtpijokiagkhdeaaDoor
