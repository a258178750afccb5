/- FnHalves: the bits of a surrogate half in the form of three bytes are no encoding, whatever follows. The tables are those that the program lays. -/
import Derived.Test.YtpijokiagkhdeaaDoorFrame
import Derived.Test.YtpijokiagkhdeaaDoorDecodeU
import Derived.Test.YtpijokiagkhdeaaDoorValidU
import Derived.Test.YtpijokiagkhdeaaDoorCount
import Derived.Test.YtpijokiagkhdeaaDoorRune
import Derived.Test.YtpijokiagkhdeaaDoorForm
import Derived.Test.YtpijokiagkhdeaaDoorJoined
import Derived.Test.YtpijokiagkhdeaaDoorPlainF
namespace Go.Proofs.YtpijokiagkhdeaaDoor
open Go.RowKit Go.Lib
set_option linter.unusedVariables false
set_option maxRecDepth 100000 in
set_option maxHeartbeats 1000000 in
theorem fnHalves_walk (a0 : Int) (A1 : Option Addr) (n1 c1 : Nat) (l1 : List UInt8) (w : World) (hT : Tabs w) (b0 : -2147483648 ≤ a0 ∧ a0 ≤ 2147483647) (e1 : By w A1 n1 l1) (g1 : n1 ≤ c1) (m1 : c1 ≤ 140737488351232) :
    Calls Tryd.prog 12 #[.int .i32 a0, .slice A1 n1 c1] w fun e w' => e = .returned (.bool true) ∧ Nx w w' := by
  obtain ⟨h1, h2⟩ := b0
  cases hg : surB a0 with
  | false =>
    go_enter Tryd.func12, Tryd.ntmps12
    go_wp2_with (go_at_call 36; refine (surrogate_any _ _).mono ?_; rintro e w' ⟨rfl, rfl⟩)
    go_ret
    exact ⟨rfl, Nx.refl _⟩
  | true =>
    have hs := surB_iff.1 hg
    obtain ⟨s1, s2⟩ := hs
    have hgood : goodB a0 = false := good_of_false (Or.inr (Or.inl ⟨s1, s2⟩))
    have LX := Lib.hid e1.len
    obtain ⟨L, hL⟩ : ∃ L, Hid (form a0 3 = L) := ⟨_, rfl⟩
    have hLl : L.length = 3 := by rw [← hL.out]; exact form_len _ _ (by omega)
    have hd : Hid (dec (L ++ l1) = (65533, 1)) := by
      show _ = _
      rw [dec_of (by intro h; have := congrArg List.length h; rw [List.length_append, hLl] at this; simp at this <;> omega), ← hL.out]
      exact three_bad (by omega) (Or.inr ⟨s1, s2⟩) l1
    obtain ⟨hc, hv, hl⟩ : cnt L = 3 ∧ validB L = false ∧ decodeLastL L = (65533, 1) := by
      rw [← hL.out]
      exact three_alone (by omega) (Or.inr ⟨s1, s2⟩)
    have HC := Lib.hid hc
    have HV := Lib.hid hv
    have HL := Lib.hid hl
    have cl := Lib.hid fun w => len_any a0 w
    rw [lenZ_bad hgood] at cl
    have cv := Lib.hid fun w => validRune_any a0 w
    rw [hgood] at cv
    have cf := Lib.hid fun w => form_any a0 3 w (by omega) (by omega) (by omega)
    rw [hL.out] at cf
    clear hc hv hl hgood
    go_enter Tryd.func12, Tryd.ntmps12
    go_wp2_with (go_at_call 36; refine (surrogate_any _ _).mono ?_; rintro e w' ⟨rfl, rfl⟩)
    refine (cf.out _).mono ?_
    rintro e w1 ⟨A2, n2, c2, rfl, o2, x1⟩
    have hn2 : n2 = 3 := by have := o2.len; rw [nums_length, hLl] at this; exact this
    subst hn2
    go_wp2_with fail
    refine (joined_any _ _ _ L _ _ _ l1 _ o2.sl (e1.next x1) (by omega)).mono ?_
    rintro e w2 ⟨A3, n3, c3, rfl, o3, x2⟩
    have y2 := x1.trans x2
    go_wp2_with fail
    refine (decode_any _ _ _ (L ++ l1) _ (hT.next y2) o3.sl).mono ?_
    rw [hd.out]
    rintro e w3 ⟨rfl, x3⟩
    have y3 := y2.trans x3
    have s3 : By w3 A2 3 L := (o2.sl.next x2).next x3
    have hc2 := o2.cap_.1
    go_wp2_with fail
    refine (last_any _ _ _ L _ (hT.next y3) s3 hc2 (by omega)).mono ?_
    rw [HL.out]
    rintro e w4 ⟨rfl, x4⟩
    have y4 := y3.trans x4
    go_wp2_with fail
    refine (valid_any _ _ _ L _ (hT.next y4) (s3.next x4) hc2 (by omega)).mono ?_
    rw [HV.out]
    rintro e w5 ⟨rfl, x5⟩
    have y5 := y4.trans x5
    go_wp2_with fail
    refine (count_any _ _ _ L _ ((s3.next x4).next x5) hc2 (by omega)).mono ?_
    rw [HC.out]
    rintro e w6 ⟨rfl, x6⟩
    have y6 := y5.trans x6
    go_wp2_with (first | (go_at_call 32; refine (cl.out _).mono ?_; rintro e w' ⟨rfl, rfl⟩) | (go_at_call 30; refine (cv.out _).mono ?_; rintro e w' ⟨rfl, rfl⟩))
    go_ret
    exact ⟨rfl, y6⟩
namespace fnHalves
open Go.ChangeShapes Go.WideShapes Go.ChangeAt Go.RowKit
open Go.ChangeMaps (open_string shut_string)
set_option maxRecDepth 100000 in
set_option linter.unusedVariables false in
theorem laid_met (os : Os) : laidMet Tryd.prog Rows.fnHalvesRow.laid ((laidWorld os).forCall (fun _ _ => 0) ⟨#[], #[.int .i32 0, .slice none 0 0], []⟩).memory :=
  laidMet_of_run' 8 (by kernel_rfl) (by kernel_rfl)
theorem reads (os : Os) {H : Type} (enc : TypeId × Value → H) : ∃ places, DataW.whole enc Tryd.prog ((laidWorld os).forCall (fun _ _ => 0) ⟨#[], #[.int .i32 0, .slice none 0 0], []⟩).memory Tryd.f12.params.toList Rows.fnHalvesSpec.vars false (#[.int .i32 0, .slice none 0 0] : Array Value).toList 8 = some ([.lit (.int .i32 0), .nil], [], places) :=
  ⟨[], by kernel_rfl⟩
set_option maxRecDepth 100000 in
set_option linter.unusedVariables false in
theorem lifted (os : Os) (started : os.Started) (H : Type) (enc : TypeId × Value → H) (F : Stop.Interp) :
    ReturnsInHanded {} Tryd.checked os 12 .any ((OpenSpec.ofChange Rows.fnHalvesSpec).preRow enc Tryd.prog Tryd.f12 Rows.fnHalvesRow.domain false Rows.fnHalvesRow.laid) (((OpenSpec.ofChange Rows.fnHalvesSpec).at F).post enc Tryd.prog Tryd.f12 false true false false) := by
  obtain ⟨places, hx⟩ := reads os enc
  refine returnsInHanded_of_row (C := Tryd.checked) (s := (OpenSpec.ofChange Rows.fnHalvesSpec)) own started (by kernel_rfl) Tryd.func12
    (witness_row_at (enc := enc) (C := Tryd.checked) false (laidWorld os) #[.int .i32 0, .slice none 0 0] rfl (by kernel_rfl) (by kernel_rfl) (by kernel_rfl)
      (OpenSpec.preRow_of_cond 8 hx (by kernel_rfl) (fun k hk => by cases hk) (by kernel_rfl) (laid_met os))) ?_
  intro W base args ds gs before hval0 hW _ hkk hsz0 hL _ _
  have hsz : (DataW.weightsEach Tryd.prog (Tryd.f12.params.toList ++ (OpenSpec.ofChange Rows.fnHalvesSpec).bare.plain.varTypes Tryd.prog) (ds ++ gs)).all (· ≤ reachBytes) = true := hsz0
  rw [Tryd.params12] at hsz
  have hval : ∀ (j : Nat) t v, Tryd.f12.params[j]? = some t → args[j]? = some v → Value.okWide Tryd.prog W .any base t v := hval0
  have hW' := hW
  obtain ⟨p, q, hA0, hV, rfl, hfz, hnd⟩ := hW
  have hA : DataW.TrodAll enc Tryd.prog W 0 (fun _ => true) true Tryd.f12.params.toList args.toList ds p := hA0
  rw [Tryd.params12] at hA hval
  obtain ⟨v0, vs0, d0, ds0, p0, q0, hargs, rfl, rfl, h0, r0⟩ := trodAll_cons hA
  obtain ⟨v1, vs1, d1, ds1, p1, q1, rfl, rfl, rfl, h1, r1⟩ := trodAll_cons r0
  obtain ⟨rfl, rfl, rfl⟩ := trodAll_nil r1
  obtain rfl : args = #[v0, v1] := by cases args; simp_all
  obtain ⟨rfl, rfl⟩ := trodVars_none hV
  have k0 := h0
  have lt0 : ∀ x ∈ p0, x.block < W.heap.size := by obtain ⟨m, hm⟩ := k0; exact DataW.trod_lt m _ _ _ hm
  obtain ⟨a0, rfl, rfl, rfl, w0⟩ := open_int Tryd.underlying21 (hval 0 21 v0 rfl rfl) h0
  have b0 : -2147483648 ≤ a0 ∧ a0 ≤ 2147483647 := by simpa [Lit.wf, IntKind.min, IntKind.max, IntKind.signed, IntKind.bits] using w0
  have k1 := h1
  have lt1 : ∀ x ∈ p1, x.block < W.heap.size := by obtain ⟨m, hm⟩ := k1; exact DataW.trod_lt m _ _ _ hm
  obtain ⟨A1, n1, c1, l1, rfl, e1, g1, m1, u1⟩ := open_by Tryd.underlying30 Tryd.underlying5 (by kernel_rfl) (hval 1 30 v1 rfl rfl) h1
  have z1 : c1 ≤ 140737488351232 := by have := held_size (j := 1) (t := 30) (b := 1) hsz (by kernel_rfl) (by rfl) rfl Tryd.underlying30 u1; omega
  clear hA0 hval0
  refine (fnHalves_walk a0 A1 n1 c1 l1 W (tabs hL) b0 e1 g1 z1).mono fun e W' ⟨he, bel⟩ => ?_
  subst he
  exact ⟨_, rfl, _, _, _, [], _, [], hW', trodAll_mk1 (shut_bool Tryd.underlying4 _), (trodAll_cons_mk (shut_int Tryd.underlying21 w0) (trodAll_cons_mk (Below.trod laidOut (by kernel_rfl) (of_decide_eq_true (by kernel_rfl)) k1 bel.out lt1) trodAll_mk0)), rfl, bel.out.frame _, fun h => by cases h⟩
theorem row : Rows.FnHalvesSaid :=
  OpenClaim.holds_of_cond 12 Tryd.f12 rfl rfl rfl rfl rfl rfl rfl ⟨rfl, rfl, rfl, rfl, rfl⟩ rfl rfl rfl rfl rfl (by kernel_rfl) Tryd.func12 (by kernel_rfl)
    (of_decide_eq_true (by kernel_rfl)) (by unfold Func.isWrapper; first | (rw [if_pos (by decide +kernel)]; kernel_rfl) | (rw [if_neg (by decide +kernel)]; exact ⟨rfl, rfl⟩))
    (fun os started H enc _ F => by rw [OpenClaim.pre_eq_preRow]; exact lifted os started H enc F)
theorem plain (f : FuncId) (fn : Func) (hf : Tryd.pinned.checked.prog.funcNamed Rows.fnHalvesRow.func = some f) (hfn : Tryd.pinned.checked.prog.funcs[f]? = some fn) :
    false = Tryd.pinned.checked.prog.looks [] ∧ ∀ (j : Nat) t, fn.params[j]? = some t → Tryd.pinned.checked.prog.wantsStandIn t = false := by
  obtain rfl : f = 12 := Option.some.inj ((show Tryd.prog.funcNamed Rows.fnHalvesRow.func = some 12 by kernel_rfl).symm.trans hf) |>.symm
  obtain rfl : fn = Tryd.f12 := (Option.some.inj (Tryd.func12.symm.trans hfn)).symm
  refine ⟨by kernel_rfl, fun j t ht => ?_⟩
  rw [Tryd.params12] at ht
  have hm := Array.mem_of_getElem? ht
  have hor : t = 21 ∨ t = 30 := by simp at hm; omega
  rcases hor with rfl | rfl
  · exact (show Tryd.prog.wantsStandIn 21 = false by kernel_rfl)
  · exact (show Tryd.prog.wantsStandIn 30 = false by kernel_rfl)
theorem said : Rows.FnHalvesCardSaid :=
  Claim7.holds_tied_plain_at .later [] _ _ _ _ row (fun _ h => by cases h) (by kernel_rfl) (fun _ h => by cases h) fnHalves_row_tie rfl ⟨rfl, rfl⟩ (by kernel_rfl) rfl plain (by kernel_rfl)
end fnHalves
end Go.Proofs.YtpijokiagkhdeaaDoor
