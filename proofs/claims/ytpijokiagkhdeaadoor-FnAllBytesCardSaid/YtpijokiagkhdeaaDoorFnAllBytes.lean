/- FnAllBytes: a byte alone is valid just if it is below RuneSelf; with 192, 193 and the bytes from 245 on no encoding begins, and none ends. The tables are those that the program lays. -/
import Derived.Test.YtpijokiagkhdeaaDoorFrame
import Derived.Test.YtpijokiagkhdeaaDoorDecodeU
import Derived.Test.YtpijokiagkhdeaaDoorValidU
import Derived.Test.YtpijokiagkhdeaaDoorFullI
import Derived.Test.YtpijokiagkhdeaaDoorJoined
import Derived.Test.YtpijokiagkhdeaaDoorPlainF
namespace Go.Proofs.YtpijokiagkhdeaaDoor
open Go.RowKit Go.Lib
set_option linter.unusedVariables false
set_option maxRecDepth 100000 in
set_option maxHeartbeats 2000000 in
theorem fnAllBytes_walk (a0 : Int) (A1 : Option Addr) (n1 c1 : Nat) (l1 : List UInt8) (w : World) (hT : Tabs w) (b0 : 0 ≤ a0 ∧ a0 ≤ 255) (e1 : By w A1 n1 l1) (g1 : n1 ≤ c1) (m1 : c1 ≤ 140737488351232) :
    Calls Tryd.prog 5 #[.int .u8 a0, .slice A1 n1 c1] w fun e w' => e = .returned (.bool true) ∧ Nx w w' := by
  obtain ⟨B, hB⟩ : ∃ B : UInt8, a0 = (B.toNat : Int) := ⟨UInt8.ofNat a0.toNat, by rw [ofNat_toNat (by omega)]; omega⟩
  have LX := Lib.hid e1.len
  have one : Hid (∀ W : World, By (W.alloc (.cells #[.int .u8 a0] 5)) (some ⟨W.heap.size, 0, none⟩) 1 [B]) := fun W => by
    have := one_sl .u8 5 W a0
    rw [hB] at this ⊢
    exact this
  have HB := Lib.hid hB
  clear hB
  have x0 : Nx w (w.alloc (.cells #[.int .u8 a0] 5)) := (Nx.refl w).alloc _
  obtain ⟨h0, h255⟩ := b0
  by_cases hlt : a0 < 128
  · have hn : B.toNat < 128 := by have := HB.out; omega
    have hd : Hid (dec [B] = (B.toNat, 1)) := by show _ = _; rw [dec_of (by simp), dec_ascii B [] hn]
    have hv : Hid (validB [B] = true) := by show _ = _; rw [valid_lone, decide_eq_true hn]
    have hf : Hid (fullB [B] = true) := by
      show _ = _
      rw [full_eq _ (by simp)]
      simp only [begB]
      rw [decide_eq_false (by omega)]
      rfl
    have haa : (a0 == a0) = true := by simp
    clear hn
    go_enter Tryd.func5, Tryd.ntmps5
    go_wp2_with fail
    refine (decode_any _ _ _ [B] _ (hT.next x0) (one.out w)).mono ?_
    rw [hd.out]
    simp only
    rw [← HB.out]
    rintro e w1 ⟨rfl, x1⟩
    have y1 := x0.trans x1
    have x2 : Nx w1 (w1.alloc (.cells #[.int .u8 a0] 5)) := (Nx.refl w1).alloc _
    go_wp2_with fail
    refine (valid_any _ _ _ [B] _ (hT.next (y1.trans x2)) (one.out w1) (by omega) (by omega)).mono ?_
    rw [hv.out]
    rintro e w3 ⟨rfl, x3⟩
    have y3 := (y1.trans x2).trans x3
    have x4 : Nx w3 (w3.alloc (.cells #[.int .u8 a0] 5)) := (Nx.refl w3).alloc _
    go_wp2_with fail
    refine (fullR_any _ _ _ [B] _ (hT.next (y3.trans x4)) (one.out w3) (by omega)).mono ?_
    rw [hf.out]
    rintro e w5 ⟨rfl, x5⟩
    go_wp2_with fail
    go_ret
    exact ⟨rfl, (y3.trans x4).trans x5⟩
  · have zlt : decide (a0 < 128) = false := by simp; omega
    have hn : 128 ≤ B.toNat := by have := HB.out; omega
    have hd : Hid (dec [B] = (65533, 1)) := by show _ = _; rw [dec_of (by simp), dec_lone B hn]
    have hv : Hid (validB [B] = false) := by show _ = _; rw [valid_lone, decide_eq_false (by omega)]
    have NV : Hid ((a0 = 192 ∨ a0 = 193 ∨ 245 ≤ a0) → B.toNat = 192 ∨ B.toNat = 193 ∨ 245 ≤ B.toNat) := by have := HB.out; intro h; omega
    clear hn
    go_enter Tryd.func5, Tryd.ntmps5
    go_wp2_with fail
    refine (decode_any _ _ _ [B] _ (hT.next x0) (one.out w)).mono ?_
    rw [hd.out]
    rintro e w1 ⟨rfl, x1⟩
    have y1 := x0.trans x1
    have x2 : Nx w1 (w1.alloc (.cells #[.int .u8 a0] 5)) := (Nx.refl w1).alloc _
    go_wp2_with fail
    refine (valid_any _ _ _ [B] _ (hT.next (y1.trans x2)) (one.out w1) (by omega) (by omega)).mono ?_
    rw [hv.out]
    rintro e w3 ⟨rfl, x3⟩
    have y3 := (y1.trans x2).trans x3
    by_cases hc : a0 = 192 ∨ a0 = 193 ∨ 245 ≤ a0
    · have nv := NV.out hc
      have d1 : Hid (dec ([B] ++ l1) = (65533, 1)) := by show _ = _; rw [dec_of (by simp)]; exact dec_never B l1 nv
      have d2 := Lib.hid (last_never B l1 nv)
      have x4 : Nx w3 (w3.alloc (.cells #[.int .u8 a0] 5)) := (Nx.refl w3).alloc _
      clear nv
      rcases hc with rfl | rfl | hc
      · go_wp2_with fail
        refine (joined_any _ _ _ [B] _ _ _ l1 _ (one.out w3) (e1.next (y3.trans x4)) (by omega)).mono ?_
        rintro e w5 ⟨A5, n5, c5, rfl, o5, x5⟩
        have y5 := (y3.trans x4).trans x5
        go_wp2_with fail
        refine (decode_any _ _ _ ([B] ++ l1) _ (hT.next y5) o5.sl).mono ?_
        rw [d1.out]
        rintro e w6 ⟨rfl, x6⟩
        have y6 := y5.trans x6
        go_wp2_with fail
        refine (joined_any _ _ _ l1 _ _ _ [B] _ (e1.next (y6.alloc _)) (one.out w6) (by omega)).mono ?_
        rintro e w8 ⟨A8, n8, c8, rfl, o8, x8⟩
        have hn8 : n8 = n1 + 1 := by have := o8.len; rw [nums_length, List.length_append, LX.out] at this; exact this
        subst hn8
        have y8 := (y6.alloc _).trans x8
        go_wp2_with fail
        refine (last_any _ _ _ (l1 ++ [B]) _ (hT.next y8) o8.sl o8.cap_.1 (by omega)).mono ?_
        rw [d2.out]
        rintro e w9 ⟨rfl, x9⟩
        go_wp2_with fail
        go_ret
        exact ⟨rfl, y8.trans x9⟩
      · go_wp2_with fail
        refine (joined_any _ _ _ [B] _ _ _ l1 _ (one.out w3) (e1.next (y3.trans x4)) (by omega)).mono ?_
        rintro e w5 ⟨A5, n5, c5, rfl, o5, x5⟩
        have y5 := (y3.trans x4).trans x5
        go_wp2_with fail
        refine (decode_any _ _ _ ([B] ++ l1) _ (hT.next y5) o5.sl).mono ?_
        rw [d1.out]
        rintro e w6 ⟨rfl, x6⟩
        have y6 := y5.trans x6
        go_wp2_with fail
        refine (joined_any _ _ _ l1 _ _ _ [B] _ (e1.next (y6.alloc _)) (one.out w6) (by omega)).mono ?_
        rintro e w8 ⟨A8, n8, c8, rfl, o8, x8⟩
        have hn8 : n8 = n1 + 1 := by have := o8.len; rw [nums_length, List.length_append, LX.out] at this; exact this
        subst hn8
        have y8 := (y6.alloc _).trans x8
        go_wp2_with fail
        refine (last_any _ _ _ (l1 ++ [B]) _ (hT.next y8) o8.sl o8.cap_.1 (by omega)).mono ?_
        rw [d2.out]
        rintro e w9 ⟨rfl, x9⟩
        go_wp2_with fail
        go_ret
        exact ⟨rfl, y8.trans x9⟩
      · have z1 : (a0 != 192) = true := by simp; omega
        have z2 : (a0 != 193) = true := by simp; omega
        have z3 : decide (a0 < 245) = false := by simp; omega
        go_wp2_with fail
        refine (joined_any _ _ _ [B] _ _ _ l1 _ (one.out w3) (e1.next (y3.trans x4)) (by omega)).mono ?_
        rintro e w5 ⟨A5, n5, c5, rfl, o5, x5⟩
        have y5 := (y3.trans x4).trans x5
        go_wp2_with fail
        refine (decode_any _ _ _ ([B] ++ l1) _ (hT.next y5) o5.sl).mono ?_
        rw [d1.out]
        rintro e w6 ⟨rfl, x6⟩
        have y6 := y5.trans x6
        go_wp2_with fail
        refine (joined_any _ _ _ l1 _ _ _ [B] _ (e1.next (y6.alloc _)) (one.out w6) (by omega)).mono ?_
        rintro e w8 ⟨A8, n8, c8, rfl, o8, x8⟩
        have hn8 : n8 = n1 + 1 := by have := o8.len; rw [nums_length, List.length_append, LX.out] at this; exact this
        subst hn8
        have y8 := (y6.alloc _).trans x8
        go_wp2_with fail
        refine (last_any _ _ _ (l1 ++ [B]) _ (hT.next y8) o8.sl o8.cap_.1 (by omega)).mono ?_
        rw [d2.out]
        rintro e w9 ⟨rfl, x9⟩
        go_wp2_with fail
        go_ret
        exact ⟨rfl, y8.trans x9⟩
    · have z1 : (a0 != 192) = true := by simp; omega
      have z2 : (a0 != 193) = true := by simp; omega
      have z3 : a0 < 245 := by omega
      clear hc
      go_wp2_with fail
      go_ret
      exact ⟨rfl, y3⟩
namespace fnAllBytes
open Go.ChangeShapes Go.WideShapes Go.ChangeAt Go.RowKit
open Go.ChangeMaps (open_string shut_string)
set_option maxRecDepth 100000 in
set_option linter.unusedVariables false in
theorem laid_met (os : Os) : laidMet Tryd.prog Rows.fnAllBytesRow.laid ((laidWorld os).forCall (fun _ _ => 0) ⟨#[], #[.int .u8 0, .slice none 0 0], []⟩).memory :=
  laidMet_of_run' 8 (by kernel_rfl) (by kernel_rfl)
theorem reads (os : Os) {H : Type} (enc : TypeId × Value → H) : ∃ places, DataW.whole enc Tryd.prog ((laidWorld os).forCall (fun _ _ => 0) ⟨#[], #[.int .u8 0, .slice none 0 0], []⟩).memory Tryd.f5.params.toList Rows.fnAllBytesSpec.vars false (#[.int .u8 0, .slice none 0 0] : Array Value).toList 8 = some ([.lit (.int .u8 0), .nil], [], places) :=
  ⟨[], by kernel_rfl⟩
set_option maxRecDepth 100000 in
set_option linter.unusedVariables false in
theorem lifted (os : Os) (started : os.Started) (H : Type) (enc : TypeId × Value → H) (F : Stop.Interp) :
    ReturnsInHanded {} Tryd.checked os 5 .any ((OpenSpec.ofChange Rows.fnAllBytesSpec).preRow enc Tryd.prog Tryd.f5 Rows.fnAllBytesRow.domain false Rows.fnAllBytesRow.laid) (((OpenSpec.ofChange Rows.fnAllBytesSpec).at F).post enc Tryd.prog Tryd.f5 false true false false) := by
  obtain ⟨places, hx⟩ := reads os enc
  refine returnsInHanded_of_row (C := Tryd.checked) (s := (OpenSpec.ofChange Rows.fnAllBytesSpec)) own started (by kernel_rfl) Tryd.func5
    (witness_row_at (enc := enc) (C := Tryd.checked) false (laidWorld os) #[.int .u8 0, .slice none 0 0] rfl (by kernel_rfl) (by kernel_rfl) (by kernel_rfl)
      (OpenSpec.preRow_of_cond 8 hx (by kernel_rfl) (fun k hk => by cases hk) (by kernel_rfl) (laid_met os))) ?_
  intro W base args ds gs before hval0 hW _ hkk hsz0 hL _ _
  have hsz : (DataW.weightsEach Tryd.prog (Tryd.f5.params.toList ++ (OpenSpec.ofChange Rows.fnAllBytesSpec).bare.plain.varTypes Tryd.prog) (ds ++ gs)).all (· ≤ reachBytes) = true := hsz0
  rw [Tryd.params5] at hsz
  have hval : ∀ (j : Nat) t v, Tryd.f5.params[j]? = some t → args[j]? = some v → Value.okWide Tryd.prog W .any base t v := hval0
  have hW' := hW
  obtain ⟨p, q, hA0, hV, rfl, hfz, hnd⟩ := hW
  have hA : DataW.TrodAll enc Tryd.prog W 0 (fun _ => true) true Tryd.f5.params.toList args.toList ds p := hA0
  rw [Tryd.params5] at hA hval
  obtain ⟨v0, vs0, d0, ds0, p0, q0, hargs, rfl, rfl, h0, r0⟩ := trodAll_cons hA
  obtain ⟨v1, vs1, d1, ds1, p1, q1, rfl, rfl, rfl, h1, r1⟩ := trodAll_cons r0
  obtain ⟨rfl, rfl, rfl⟩ := trodAll_nil r1
  obtain rfl : args = #[v0, v1] := by cases args; simp_all
  obtain ⟨rfl, rfl⟩ := trodVars_none hV
  have k0 := h0
  have lt0 : ∀ x ∈ p0, x.block < W.heap.size := by obtain ⟨m, hm⟩ := k0; exact DataW.trod_lt m _ _ _ hm
  obtain ⟨a0, rfl, rfl, rfl, w0⟩ := open_int Tryd.underlying5 (hval 0 5 v0 rfl rfl) h0
  have b0 : 0 ≤ a0 ∧ a0 ≤ 255 := by simpa [Lit.wf, IntKind.min, IntKind.max, IntKind.signed, IntKind.bits] using w0
  have k1 := h1
  have lt1 : ∀ x ∈ p1, x.block < W.heap.size := by obtain ⟨m, hm⟩ := k1; exact DataW.trod_lt m _ _ _ hm
  obtain ⟨A1, n1, c1, l1, rfl, e1, g1, m1, u1⟩ := open_by Tryd.underlying30 Tryd.underlying5 (by kernel_rfl) (hval 1 30 v1 rfl rfl) h1
  have z1 : c1 ≤ 140737488351232 := by have := held_size (j := 1) (t := 30) (b := 1) hsz (by kernel_rfl) (by rfl) rfl Tryd.underlying30 u1; omega
  clear hA0 hval0
  refine (fnAllBytes_walk a0 A1 n1 c1 l1 W (tabs hL) b0 e1 g1 z1).mono fun e W' ⟨he, bel⟩ => ?_
  subst he
  exact ⟨_, rfl, _, _, _, [], _, [], hW', trodAll_mk1 (shut_bool Tryd.underlying4 _), (trodAll_cons_mk (shut_int Tryd.underlying5 w0) (trodAll_cons_mk (Below.trod laidOut (by kernel_rfl) (of_decide_eq_true (by kernel_rfl)) k1 bel.out lt1) trodAll_mk0)), rfl, bel.out.frame _, fun h => by cases h⟩
theorem row : Rows.FnAllBytesSaid :=
  OpenClaim.holds_of_cond 5 Tryd.f5 rfl rfl rfl rfl rfl rfl rfl ⟨rfl, rfl, rfl, rfl, rfl⟩ rfl rfl rfl rfl rfl (by kernel_rfl) Tryd.func5 (by kernel_rfl)
    (of_decide_eq_true (by kernel_rfl)) (by unfold Func.isWrapper; first | (rw [if_pos (by decide +kernel)]; kernel_rfl) | (rw [if_neg (by decide +kernel)]; exact ⟨rfl, rfl⟩))
    (fun os started H enc _ F => by rw [OpenClaim.pre_eq_preRow]; exact lifted os started H enc F)
theorem plain (f : FuncId) (fn : Func) (hf : Tryd.pinned.checked.prog.funcNamed Rows.fnAllBytesRow.func = some f) (hfn : Tryd.pinned.checked.prog.funcs[f]? = some fn) :
    false = Tryd.pinned.checked.prog.looks [] ∧ ∀ (j : Nat) t, fn.params[j]? = some t → Tryd.pinned.checked.prog.wantsStandIn t = false := by
  obtain rfl : f = 5 := Option.some.inj ((show Tryd.prog.funcNamed Rows.fnAllBytesRow.func = some 5 by kernel_rfl).symm.trans hf) |>.symm
  obtain rfl : fn = Tryd.f5 := (Option.some.inj (Tryd.func5.symm.trans hfn)).symm
  refine ⟨by kernel_rfl, fun j t ht => ?_⟩
  rw [Tryd.params5] at ht
  have hm := Array.mem_of_getElem? ht
  have hor : t = 5 ∨ t = 30 := by simp at hm; omega
  rcases hor with rfl | rfl
  · exact (show Tryd.prog.wantsStandIn 5 = false by kernel_rfl)
  · exact (show Tryd.prog.wantsStandIn 30 = false by kernel_rfl)
theorem said : Rows.FnAllBytesCardSaid :=
  Claim7.holds_tied_plain_at .later [] _ _ _ _ row (fun _ h => by cases h) (by kernel_rfl) (fun _ h => by cases h) fnAllBytes_row_tie rfl ⟨rfl, rfl⟩ (by kernel_rfl) rfl plain (by kernel_rfl)
end fnAllBytes
end Go.Proofs.YtpijokiagkhdeaaDoor
