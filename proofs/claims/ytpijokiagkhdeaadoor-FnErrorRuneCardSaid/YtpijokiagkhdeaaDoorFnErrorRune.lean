/- FnErrorRune: RuneError that stands in a text has three bytes and is valid there. The tables are those that the program lays. -/
import Derived.Test.YtpijokiagkhdeaaDoorFrame
import Derived.Test.YtpijokiagkhdeaaDoorDecodeU
import Derived.Test.YtpijokiagkhdeaaDoorValidU
import Derived.Test.YtpijokiagkhdeaaDoorRune
import Derived.Test.YtpijokiagkhdeaaDoorAppend
import Derived.Test.YtpijokiagkhdeaaDoorJoined
import Derived.Test.YtpijokiagkhdeaaDoorPlainF
namespace Go.Proofs.YtpijokiagkhdeaaDoor
open Go.RowKit Go.Lib
set_option linter.unusedVariables false
set_option maxRecDepth 100000 in
set_option maxHeartbeats 1000000 in
theorem fnErrorRune_walk (A0 : Option Addr) (n0 c0 : Nat) (l0 : List UInt8) (A1 : Option Addr) (n1 c1 : Nat) (l1 : List UInt8) (w : World) (hT : Tabs w) (e0 : By w A0 n0 l0) (g0 : n0 ≤ c0) (m0 : c0 ≤ 140737488351232)
    (e1 : By w A1 n1 l1) (g1 : n1 ≤ c1) (m1 : c1 ≤ 140737488351232) :
    Calls Tryd.prog 6 #[.slice A0 n0 c0, .slice A1 n1 c1] w fun e w' => e = .returned (.bool true) ∧ Nx w w' := by
  have LX := Lib.hid e0.len
  obtain ⟨E, hE⟩ : ∃ E, Hid (encodeRune 65533 = E) := ⟨_, rfl⟩
  have hEl : E.length = 3 := by rw [← hE.out]; decide
  have hg : goodB 65533 = true := by decide
  have hl : Hid (decodeLastL (l0 ++ E) = (65533, 3)) := by show _ = _; rw [← hE.out, last_enc hg]; rfl
  have hd : Hid (dec (E ++ l1) = (65533, 3)) := by show _ = _; rw [← hE.out, dec_of (by simp [enc_ne]), dec_enc hg]; rfl
  have hv : Hid (validB E = true) := by show _ = _; rw [← hE.out]; have := validB_enc hg []; rw [List.append_nil, validB_nil] at this; exact this
  have ca := Lib.hid fun A n c l W (hl : By W A n l) hn => append_any A n c l 65533 W hl (by omega) (by omega) hn
  have cn := Lib.hid fun A c W => append_new A c 65533 W (by omega) (by omega)
  rw [hE.out] at ca cn
  have cv := Lib.hid fun w => validRune_any 65533 w
  rw [hg] at cv
  clear hg
  go_enter Tryd.func6, Tryd.ntmps6
  go_wp2_with fail
  refine (ca.out _ _ _ l0 _ e0 (by omega)).mono ?_
  rintro e w1 ⟨A2, n2, c2, rfl, o2, x1⟩
  have hn2 : n2 = n0 + 3 := by have := o2.len; rw [nums_length, List.length_append, hEl, LX.out] at this; exact this
  subst hn2
  go_wp2_with fail
  refine (last_any _ _ _ (l0 ++ E) _ (hT.next x1) o2.sl o2.cap_.1 (by omega)).mono ?_
  rw [hl.out]
  rintro e w2 ⟨rfl, x2⟩
  have y2 := x1.trans x2
  have x3 : Nx w2 (w2.alloc (.cells #[] 5)) := (Nx.refl w2).alloc _
  go_wp2_with fail
  refine (cn.out _ _ _).mono ?_
  rintro e w4 ⟨A4, n4, c4, rfl, o4, l4, p4, q4, g4, x4⟩
  have hn4 : n4 = 3 := by rw [l4.out, hEl]
  subst hn4
  have y4 := (y2.trans x3).trans x4
  go_wp2_with fail
  refine (joined_any _ _ _ E _ _ _ l1 _ o4.sl (e1.next y4) (by omega)).mono ?_
  rintro e w5 ⟨A5, n5, c5, rfl, o5, x5⟩
  have y5 := y4.trans x5
  go_wp2_with fail
  refine (decode_any _ _ _ (E ++ l1) _ (hT.next y5) o5.sl).mono ?_
  rw [hd.out]
  rintro e w6 ⟨rfl, x6⟩
  have y6 := y5.trans x6
  go_wp2_with fail
  refine (valid_any _ _ _ E _ (hT.next y6) ((o4.sl.next x5).next x6) g4 (by omega)).mono ?_
  rw [hv.out]
  rintro e w7 ⟨rfl, x7⟩
  go_wp2_with (go_at_call 30; refine (cv.out _).mono ?_; rintro e w' ⟨rfl, rfl⟩)
  go_ret
  exact ⟨rfl, y6.trans x7⟩
namespace fnErrorRune
open Go.ChangeShapes Go.WideShapes Go.ChangeAt Go.RowKit
open Go.ChangeMaps (open_string shut_string)
set_option maxRecDepth 100000 in
set_option linter.unusedVariables false in
theorem laid_met (os : Os) : laidMet Tryd.prog Rows.fnErrorRuneRow.laid ((laidWorld os).forCall (fun _ _ => 0) ⟨#[], #[.slice none 0 0, .slice none 0 0], []⟩).memory :=
  laidMet_of_run' 8 (by kernel_rfl) (by kernel_rfl)
theorem reads (os : Os) {H : Type} (enc : TypeId × Value → H) : ∃ places, DataW.whole enc Tryd.prog ((laidWorld os).forCall (fun _ _ => 0) ⟨#[], #[.slice none 0 0, .slice none 0 0], []⟩).memory Tryd.f6.params.toList Rows.fnErrorRuneSpec.vars false (#[.slice none 0 0, .slice none 0 0] : Array Value).toList 8 = some ([.nil, .nil], [], places) :=
  ⟨[], by kernel_rfl⟩
set_option maxRecDepth 100000 in
set_option linter.unusedVariables false in
theorem lifted (os : Os) (started : os.Started) (H : Type) (enc : TypeId × Value → H) (F : Stop.Interp) :
    ReturnsInHanded {} Tryd.checked os 6 .any ((OpenSpec.ofChange Rows.fnErrorRuneSpec).preRow enc Tryd.prog Tryd.f6 Rows.fnErrorRuneRow.domain false Rows.fnErrorRuneRow.laid) (((OpenSpec.ofChange Rows.fnErrorRuneSpec).at F).post enc Tryd.prog Tryd.f6 false true false false) := by
  obtain ⟨places, hx⟩ := reads os enc
  refine returnsInHanded_of_row (C := Tryd.checked) (s := (OpenSpec.ofChange Rows.fnErrorRuneSpec)) own started (by kernel_rfl) Tryd.func6
    (witness_row_at (enc := enc) (C := Tryd.checked) false (laidWorld os) #[.slice none 0 0, .slice none 0 0] rfl (by kernel_rfl) (by kernel_rfl) (by kernel_rfl)
      (OpenSpec.preRow_of_cond 8 hx (by kernel_rfl) (fun k hk => by cases hk) (by kernel_rfl) (laid_met os))) ?_
  intro W base args ds gs before hval0 hW _ hkk hsz0 hL _ _
  have hsz : (DataW.weightsEach Tryd.prog (Tryd.f6.params.toList ++ (OpenSpec.ofChange Rows.fnErrorRuneSpec).bare.plain.varTypes Tryd.prog) (ds ++ gs)).all (· ≤ reachBytes) = true := hsz0
  rw [Tryd.params6] at hsz
  have hval : ∀ (j : Nat) t v, Tryd.f6.params[j]? = some t → args[j]? = some v → Value.okWide Tryd.prog W .any base t v := hval0
  have hW' := hW
  obtain ⟨p, q, hA0, hV, rfl, hfz, hnd⟩ := hW
  have hA : DataW.TrodAll enc Tryd.prog W 0 (fun _ => true) true Tryd.f6.params.toList args.toList ds p := hA0
  rw [Tryd.params6] at hA hval
  obtain ⟨v0, vs0, d0, ds0, p0, q0, hargs, rfl, rfl, h0, r0⟩ := trodAll_cons hA
  obtain ⟨v1, vs1, d1, ds1, p1, q1, rfl, rfl, rfl, h1, r1⟩ := trodAll_cons r0
  obtain ⟨rfl, rfl, rfl⟩ := trodAll_nil r1
  obtain rfl : args = #[v0, v1] := by cases args; simp_all
  obtain ⟨rfl, rfl⟩ := trodVars_none hV
  have k0 := h0
  have lt0 : ∀ x ∈ p0, x.block < W.heap.size := by obtain ⟨m, hm⟩ := k0; exact DataW.trod_lt m _ _ _ hm
  obtain ⟨A0, n0, c0, l0, rfl, e0, g0, m0, u0⟩ := open_by Tryd.underlying30 Tryd.underlying5 (by kernel_rfl) (hval 0 30 v0 rfl rfl) h0
  have z0 : c0 ≤ 140737488351232 := by have := held_size (j := 0) (t := 30) (b := 1) hsz (by kernel_rfl) (by rfl) rfl Tryd.underlying30 u0; omega
  have k1 := h1
  have lt1 : ∀ x ∈ p1, x.block < W.heap.size := by obtain ⟨m, hm⟩ := k1; exact DataW.trod_lt m _ _ _ hm
  obtain ⟨A1, n1, c1, l1, rfl, e1, g1, m1, u1⟩ := open_by Tryd.underlying30 Tryd.underlying5 (by kernel_rfl) (hval 1 30 v1 rfl rfl) h1
  have z1 : c1 ≤ 140737488351232 := by have := held_size (j := 1) (t := 30) (b := 1) hsz (by kernel_rfl) (by rfl) rfl Tryd.underlying30 u1; omega
  clear hA0 hval0
  refine (fnErrorRune_walk A0 n0 c0 l0 A1 n1 c1 l1 W (tabs hL) e0 g0 z0 e1 g1 z1).mono fun e W' ⟨he, bel⟩ => ?_
  subst he
  exact ⟨_, rfl, _, _, _, [], _, [], hW', trodAll_mk1 (shut_bool Tryd.underlying4 _), (trodAll_cons_mk (Below.trod laidOut (by kernel_rfl) (of_decide_eq_true (by kernel_rfl)) k0 bel.out lt0) (trodAll_cons_mk (Below.trod laidOut (by kernel_rfl) (of_decide_eq_true (by kernel_rfl)) k1 bel.out lt1) trodAll_mk0)), rfl, bel.out.frame _, fun h => by cases h⟩
theorem row : Rows.FnErrorRuneSaid :=
  OpenClaim.holds_of_cond 6 Tryd.f6 rfl rfl rfl rfl rfl rfl rfl ⟨rfl, rfl, rfl, rfl, rfl⟩ rfl rfl rfl rfl rfl (by kernel_rfl) Tryd.func6 (by kernel_rfl)
    (of_decide_eq_true (by kernel_rfl)) (by unfold Func.isWrapper; first | (rw [if_pos (by decide +kernel)]; kernel_rfl) | (rw [if_neg (by decide +kernel)]; exact ⟨rfl, rfl⟩))
    (fun os started H enc _ F => by rw [OpenClaim.pre_eq_preRow]; exact lifted os started H enc F)
theorem plain (f : FuncId) (fn : Func) (hf : Tryd.pinned.checked.prog.funcNamed Rows.fnErrorRuneRow.func = some f) (hfn : Tryd.pinned.checked.prog.funcs[f]? = some fn) :
    false = Tryd.pinned.checked.prog.looks [] ∧ ∀ (j : Nat) t, fn.params[j]? = some t → Tryd.pinned.checked.prog.wantsStandIn t = false := by
  obtain rfl : f = 6 := Option.some.inj ((show Tryd.prog.funcNamed Rows.fnErrorRuneRow.func = some 6 by kernel_rfl).symm.trans hf) |>.symm
  obtain rfl : fn = Tryd.f6 := (Option.some.inj (Tryd.func6.symm.trans hfn)).symm
  refine ⟨by kernel_rfl, fun j t ht => ?_⟩
  rw [Tryd.params6] at ht
  have hm := Array.mem_of_getElem? ht
  have hor : t = 30 := by simp at hm; omega
  subst hor
  exact (show Tryd.prog.wantsStandIn 30 = false by kernel_rfl)
theorem said : Rows.FnErrorRuneCardSaid :=
  Claim7.holds_tied_plain_at .later [] _ _ _ _ row (fun _ h => by cases h) (by kernel_rfl) (fun _ h => by cases h) fnErrorRune_row_tie rfl ⟨rfl, rfl⟩ (by kernel_rfl) rfl plain (by kernel_rfl)
end fnErrorRune
end Go.Proofs.YtpijokiagkhdeaaDoor
