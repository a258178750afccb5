/- FnLast: a good rune behind any bytes is the last one that is decoded, also from a string. The tables are those that the program lays. -/
import Derived.Test.YtpijokiagkhdeaaDoorFrame
import Derived.Test.YtpijokiagkhdeaaDoorDecodeU
import Derived.Test.YtpijokiagkhdeaaDoorRune
import Derived.Test.YtpijokiagkhdeaaDoorAppend
import Derived.Test.YtpijokiagkhdeaaDoorSame
import Derived.Test.YtpijokiagkhdeaaDoorPlainE
namespace Go.Proofs.YtpijokiagkhdeaaDoor
open Go.RowKit Go.Lib
set_option linter.unusedVariables false
set_option maxRecDepth 100000 in
set_option maxHeartbeats 1000000 in
theorem fnLast_walk (A0 : Option Addr) (n0 c0 : Nat) (l0 : List UInt8) (a1 : Int) (w : World) (hT : Tabs w) (e0 : By w A0 n0 l0) (g0 : n0 ≤ c0) (m0 : c0 ≤ 140737488351232) (b1 : -2147483648 ≤ a1 ∧ a1 ≤ 2147483647) :
    Calls Tryd.prog 14 #[.slice A0 n0 c0, .int .i32 a1] w fun e w' => e = .returned (.bool true) ∧ Nx w w' := by
  obtain ⟨h1, h2⟩ := b1
  cases hg : goodB a1 with
  | false =>
    go_enter Tryd.func14, Tryd.ntmps14
    go_wp2_with (go_at_call 20; refine (good_any _ _).mono ?_; rintro e w' ⟨rfl, rfl⟩)
    go_ret
    exact ⟨rfl, Nx.refl _⟩
  | true =>
    have LX := Lib.hid e0.len
    obtain ⟨K, hK⟩ : ∃ K, Hid ((encodeRune a1).length = K) := ⟨_, rfl⟩
    have hKl := enc_length a1
    rw [hK.out] at hKl
    obtain ⟨k1, k4⟩ := hKl
    obtain ⟨L, hL⟩ : ∃ L, Hid (l0 ++ encodeRune a1 = L) := ⟨_, rfl⟩
    have hLl : L.length = n0 + K := by rw [← hL.out, List.length_append, hK.out, LX.out]
    have HA : Hid ((a1.toNat : Int) = a1) := by show _ = _; have := hg; rw [goodB_iff] at this; omega
    have hd : Hid (decodeLastL L = (a1.toNat, K)) := by
      show _ = _
      rw [← hL.out, last_enc hg, hK.out]
    have ht : Hid (L.take n0 = l0) := by show _ = _; rw [← hL.out, ← LX.out, List.take_left]
    have hl := lenZ_good hg
    rw [hK.out] at hl
    have cl := Lib.hid fun w => len_any a1 w
    rw [hl] at cl
    have haa : (a1 == a1) = true := by simp
    have hKK : ((K : Int) == (K : Int)) = true := by simp
    clear hl
    go_enter Tryd.func14, Tryd.ntmps14
    go_wp2_with (go_at_call 20; refine (good_any _ _).mono ?_; rintro e w' ⟨rfl, rfl⟩)
    refine (append_any _ _ _ l0 a1 _ e0 h1 h2 (by omega)).mono ?_
    rw [hL.out]
    rintro e w2 ⟨A3, n3, c3, rfl, o3, y2⟩
    have hn3' : n3 = n0 + K := by have := o3.len; rw [nums_length, hLl] at this; exact this
    have hn3b : n3 ≤ 140737488355332 := by omega
    have hn3c : n0 ≤ n3 := by omega
    have hn3 := Lib.hid hn3'
    clear hn3'
    have hc3 := o3.cap_.1
    go_wp2_with fail
    refine (last_any _ _ _ L _ (hT.next y2) o3.sl hc3 (by omega)).mono ?_
    rw [hd.out]
    simp only
    rw [HA.out]
    rintro e w3 ⟨rfl, x3⟩
    have y3 := y2.trans x3
    have s3 : By w3 A3 n3 L := o3.sl.next x3
    have t1 := run_bytes_str (P := Tryd.prog) 30 9 5 Tryd.underlying30 Tryd.underlying5 Tryd.underlying9 w3 A3 n3 c3 _ s3
    obtain ⟨X, hX⟩ : ∃ X, Hid (strOf L = X) := ⟨_, rfl⟩
    have hXd : Hid (X.data.toList = L) := by show _ = _; rw [← hX.out, strOf_data]
    have hXs : X.size ≤ n0 + 4 := by rw [← hX.out, strOf_size, hLl]; omega
    rw [hX.out] at t1
    have hup := fun W => run_upto (P := Tryd.prog) 30 5 Tryd.underlying30 (fun _ => by kernel_rfl) A3 n3 c3 .i64 ((n3 : Int) - (K : Int)) n0 (by have := hn3.out; omega) (by omega) W
    have s4 := By.upto (j := n0) s3 (by omega)
    rw [ht.out] at s4
    go_wp2_with fail
    refine (lastS_any X _ (hT.next y3) (by omega)).mono ?_
    rw [hXd.out, hd.out]
    simp only
    rw [HA.out]
    rintro e w4 ⟨rfl, x4⟩
    have y4 := y3.trans x4
    have hkn : K ≤ n3 := by have := hn3.out; omega
    clear t1
    go_wp2_with (go_at_call 32; refine (cl.out _).mono ?_; rintro e w' ⟨rfl, rfl⟩)
    refine (same_u8_by _ _ _ _ _ _ l0 l0 _ (s4.next x4) (e0.next y4) (by omega) (by omega)).mono ?_
    rw [eqB_refl]
    rintro e w5 ⟨rfl, x5⟩
    go_wp2_with fail
    go_ret
    exact ⟨rfl, y4.trans x5⟩
namespace fnLast
open Go.ChangeShapes Go.WideShapes Go.ChangeAt Go.RowKit
open Go.ChangeMaps (open_string shut_string)
set_option maxRecDepth 100000 in
set_option linter.unusedVariables false in
theorem laid_met (os : Os) : laidMet Tryd.prog Rows.fnLastRow.laid ((laidWorld os).forCall (fun _ _ => 0) ⟨#[], #[.slice none 0 0, .int .i32 0], []⟩).memory :=
  laidMet_of_run' 8 (by kernel_rfl) (by kernel_rfl)
theorem reads (os : Os) {H : Type} (enc : TypeId × Value → H) : ∃ places, DataW.whole enc Tryd.prog ((laidWorld os).forCall (fun _ _ => 0) ⟨#[], #[.slice none 0 0, .int .i32 0], []⟩).memory Tryd.f14.params.toList Rows.fnLastSpec.vars false (#[.slice none 0 0, .int .i32 0] : Array Value).toList 8 = some ([.nil, .lit (.int .i32 0)], [], places) :=
  ⟨[], by kernel_rfl⟩
set_option maxRecDepth 100000 in
set_option linter.unusedVariables false in
theorem lifted (os : Os) (started : os.Started) (H : Type) (enc : TypeId × Value → H) (F : Stop.Interp) :
    ReturnsInHanded {} Tryd.checked os 14 .any ((OpenSpec.ofChange Rows.fnLastSpec).preRow enc Tryd.prog Tryd.f14 Rows.fnLastRow.domain false Rows.fnLastRow.laid) (((OpenSpec.ofChange Rows.fnLastSpec).at F).post enc Tryd.prog Tryd.f14 false true false false) := by
  obtain ⟨places, hx⟩ := reads os enc
  refine returnsInHanded_of_row (C := Tryd.checked) (s := (OpenSpec.ofChange Rows.fnLastSpec)) own started (by kernel_rfl) Tryd.func14
    (witness_row_at (enc := enc) (C := Tryd.checked) false (laidWorld os) #[.slice none 0 0, .int .i32 0] rfl (by kernel_rfl) (by kernel_rfl) (by kernel_rfl)
      (OpenSpec.preRow_of_cond 8 hx (by kernel_rfl) (fun k hk => by cases hk) (by kernel_rfl) (laid_met os))) ?_
  intro W base args ds gs before hval0 hW _ hkk hsz0 hL _ _
  have hsz : (DataW.weightsEach Tryd.prog (Tryd.f14.params.toList ++ (OpenSpec.ofChange Rows.fnLastSpec).bare.plain.varTypes Tryd.prog) (ds ++ gs)).all (· ≤ reachBytes) = true := hsz0
  rw [Tryd.params14] at hsz
  have hval : ∀ (j : Nat) t v, Tryd.f14.params[j]? = some t → args[j]? = some v → Value.okWide Tryd.prog W .any base t v := hval0
  have hW' := hW
  obtain ⟨p, q, hA0, hV, rfl, hfz, hnd⟩ := hW
  have hA : DataW.TrodAll enc Tryd.prog W 0 (fun _ => true) true Tryd.f14.params.toList args.toList ds p := hA0
  rw [Tryd.params14] at hA hval
  obtain ⟨v0, vs0, d0, ds0, p0, q0, hargs, rfl, rfl, h0, r0⟩ := trodAll_cons hA
  obtain ⟨v1, vs1, d1, ds1, p1, q1, rfl, rfl, rfl, h1, r1⟩ := trodAll_cons r0
  obtain ⟨rfl, rfl, rfl⟩ := trodAll_nil r1
  obtain rfl : args = #[v0, v1] := by cases args; simp_all
  obtain ⟨rfl, rfl⟩ := trodVars_none hV
  have k0 := h0
  have lt0 : ∀ x ∈ p0, x.block < W.heap.size := by obtain ⟨m, hm⟩ := k0; exact DataW.trod_lt m _ _ _ hm
  obtain ⟨A0, n0, c0, l0, rfl, e0, g0, m0, u0⟩ := open_by Tryd.underlying30 Tryd.underlying5 (by kernel_rfl) (hval 0 30 v0 rfl rfl) h0
  have z0 : c0 ≤ 140737488351232 := by have := held_size (j := 0) (t := 30) (b := 1) hsz (by kernel_rfl) (by rfl) rfl Tryd.underlying30 u0; omega
  have k1 := h1
  have lt1 : ∀ x ∈ p1, x.block < W.heap.size := by obtain ⟨m, hm⟩ := k1; exact DataW.trod_lt m _ _ _ hm
  obtain ⟨a1, rfl, rfl, rfl, w1⟩ := open_int Tryd.underlying21 (hval 1 21 v1 rfl rfl) h1
  have b1 : -2147483648 ≤ a1 ∧ a1 ≤ 2147483647 := by simpa [Lit.wf, IntKind.min, IntKind.max, IntKind.signed, IntKind.bits] using w1
  clear hA0 hval0
  refine (fnLast_walk A0 n0 c0 l0 a1 W (tabs hL) e0 g0 z0 b1).mono fun e W' ⟨he, bel⟩ => ?_
  subst he
  exact ⟨_, rfl, _, _, _, [], _, [], hW', trodAll_mk1 (shut_bool Tryd.underlying4 _), (trodAll_cons_mk (Below.trod laidOut (by kernel_rfl) (of_decide_eq_true (by kernel_rfl)) k0 bel.out lt0) (trodAll_cons_mk (shut_int Tryd.underlying21 w1) trodAll_mk0)), rfl, bel.out.frame _, fun h => by cases h⟩
theorem row : Rows.FnLastSaid :=
  OpenClaim.holds_of_cond 14 Tryd.f14 rfl rfl rfl rfl rfl rfl rfl ⟨rfl, rfl, rfl, rfl, rfl⟩ rfl rfl rfl rfl rfl (by kernel_rfl) Tryd.func14 (by kernel_rfl)
    (of_decide_eq_true (by kernel_rfl)) (by unfold Func.isWrapper; first | (rw [if_pos (by decide +kernel)]; kernel_rfl) | (rw [if_neg (by decide +kernel)]; exact ⟨rfl, rfl⟩))
    (fun os started H enc _ F => by rw [OpenClaim.pre_eq_preRow]; exact lifted os started H enc F)
theorem plain (f : FuncId) (fn : Func) (hf : Tryd.pinned.checked.prog.funcNamed Rows.fnLastRow.func = some f) (hfn : Tryd.pinned.checked.prog.funcs[f]? = some fn) :
    false = Tryd.pinned.checked.prog.looks [] ∧ ∀ (j : Nat) t, fn.params[j]? = some t → Tryd.pinned.checked.prog.wantsStandIn t = false := by
  obtain rfl : f = 14 := Option.some.inj ((show Tryd.prog.funcNamed Rows.fnLastRow.func = some 14 by kernel_rfl).symm.trans hf) |>.symm
  obtain rfl : fn = Tryd.f14 := (Option.some.inj (Tryd.func14.symm.trans hfn)).symm
  refine ⟨by kernel_rfl, fun j t ht => ?_⟩
  rw [Tryd.params14] at ht
  have hm := Array.mem_of_getElem? ht
  have hor : t = 21 ∨ t = 30 := by simp at hm; first | exact hm.symm | (rcases hm with h | h <;> simp [h]) | (rcases hm with h | h | h <;> simp [h]) | (rcases hm with h | h | h | h <;> simp [h])
  rcases hor with rfl | rfl
  · exact (show Tryd.prog.wantsStandIn 21 = false by kernel_rfl)
  · exact (show Tryd.prog.wantsStandIn 30 = false by kernel_rfl)
theorem said : Rows.FnLastCardSaid :=
  Claim7.holds_tied_plain_at .later [] _ _ _ _ row (fun _ h => by cases h) (by kernel_rfl) (fun _ h => by cases h) fnLast_row_tie rfl ⟨rfl, rfl⟩ (by kernel_rfl) rfl plain (by kernel_rfl)
end fnLast
end Go.Proofs.YtpijokiagkhdeaaDoor
