/- FnSpoiltByte: if one of the further bytes of an encoding is replaced by a byte that can be a first one, RuneError with one byte is decoded in front. The tables are those that the program lays. -/
import Derived.Test.YtcgpnmlemjldaaaDoorFrame
import Derived.Test.YtcgpnmlemjldaaaDoorDecodeU
import Derived.Test.YtcgpnmlemjldaaaDoorValidU
import Derived.Test.YtcgpnmlemjldaaaDoorStart
import Derived.Test.YtcgpnmlemjldaaaDoorGood
import Derived.Test.YtcgpnmlemjldaaaDoorEncoding
import Derived.Test.YtcgpnmlemjldaaaDoorJoined
import Derived.Test.YtcgpnmlemjldaaaDoorPlainF
namespace Go.Proofs.YtcgpnmlemjldaaaDoor
open Go.RowKit Go.Lib
set_option linter.unusedVariables false
theorem own_set {k : IntKind} {t : TypeId} {B : Nat} {w : World} {g n cap : Nat} {zs : List Int} (h : Own k t B w (some ⟨g, 0, none⟩) n cap zs) (j : Nat) (z : Int) :
    Own k t B (w.setCell ⟨g, j, none⟩ (.int k z)) (some ⟨g, 0, none⟩) n cap (zs.set j z) ∧ w.grownBy (w.setCell ⟨g, j, none⟩ (.int k z)) (some g) := by
  obtain ⟨h1, h2⟩ := h.2.stored j (.int k z)
  refine ⟨⟨by rw [List.length_set]; exact h.1, ?_⟩, h2⟩
  rw [List.map_set]
  exact h1
theorem own_free {k : IntKind} {t : TypeId} {B : Nat} {w : World} {g n cap : Nat} {zs : List Int} (h : Own k t B w (some ⟨g, 0, none⟩) n cap zs) (j : Nat) : w.frozen? ⟨g, j, none⟩ = false := by
  rcases h.2.2 with ⟨h1, _⟩ | ⟨q, c, cur, h1, _, h3, _⟩
  · cases h1
  · injection h1 with h1
    injection h1 with h1
    injection h1 with h1
    subst h1
    simp [World.frozen?, h3]
theorem own_addr {k : IntKind} {t : TypeId} {B : Nat} {w : World} {A : Option Addr} {n cap : Nat} {zs : List Int} (h : Own k t B w A n cap zs) (h0 : 0 < n) : ∃ g, A = some ⟨g, 0, none⟩ := by
  rcases h.2.2 with ⟨_, h2⟩ | ⟨q, c, cur, h1, _⟩
  · omega
  · injection h1 with h1
    exact ⟨q, h1⟩
theorem nums_set (l : List UInt8) (j : Nat) (b : UInt8) : (nums l).set j (b.toNat : Int) = nums (l.set j b) := by simp [nums, List.map_set]
set_option maxRecDepth 100000 in
set_option maxHeartbeats 2000000 in
theorem fnSpoiltByte_walk (a0 a1 a2 : Int) (A3 : Option Addr) (n3 c3 : Nat) (l3 : List UInt8) (w : World) (hT : Tabs w) (b0 : -2147483648 ≤ a0 ∧ a0 ≤ 2147483647) (b1 : -9223372036854775808 ≤ a1 ∧ a1 ≤ 9223372036854775807) (b2 : 0 ≤ a2 ∧ a2 ≤ 255) (e3 : By w A3 n3 l3) (g3 : n3 ≤ c3) (m3 : c3 ≤ 140737488351232) :
    Calls Tryd.prog 6 #[.int .i32 a0, .int .i64 a1, .int .u8 a2, .slice A3 n3 c3] w fun e w' => e = .returned (.bool true) ∧ Nx w w' := by
  obtain ⟨u0, u1⟩ := b2
  cases hg : goodB a0 with
  | false =>
    go_enter Tryd.func6, Tryd.ntmps6
    go_wp2_with (go_at_call 21; refine (good_any _ _).mono ?_; rintro e w' ⟨rfl, rfl⟩)
    go_ret
    exact ⟨rfl, Nx.refl _⟩
  | true =>
    by_cases hq : a2 / 64 = 2
    · have zq : ((a2 / 64) == 2) = true := by simp; omega
      clear hq
      go_enter Tryd.func6, Tryd.ntmps6
      go_wp2_with (go_at_call 21; refine (good_any _ _).mono ?_; rintro e w' ⟨rfl, rfl⟩)
      go_ret
      exact ⟨rfl, Nx.refl _⟩
    · have zq : ((a2 / 64) == 2) = false := by simp; omega
      have hst : startB a2 = true := by unfold startB; exact decide_eq_true hq
      have HG := Lib.hid hg
      obtain ⟨B, hB⟩ : ∃ B : UInt8, a2 = (B.toNat : Int) := ⟨UInt8.ofNat a2.toNat, by rw [ofNat_toNat (by omega)]; omega⟩
      have HQ : Hid (B.toNat / 64 ≠ 2) := by show _ ≠ _; omega
      have HB := Lib.hid hB
      have cs := Lib.hid fun w => start_any a2 w u0 u1
      rw [hst] at cs
      obtain ⟨K, hK⟩ : ∃ K, Hid ((encodeRune a0).length = K) := ⟨_, rfl⟩
      have hl := enc_length a0
      rw [hK.out] at hl
      obtain ⟨k1, k4⟩ := hl
      have ce := Lib.hid fun w => encoding_any a0 w hg
      clear hq hst hB
      by_cases hi : a1 < 1
      · go_enter Tryd.func6, Tryd.ntmps6
        go_wp2_with (go_at_call 21; refine (good_any _ _).mono ?_; rintro e w' ⟨rfl, rfl⟩)
        refine (ce.out _).mono ?_
        rintro e w1 ⟨A2, n2, c2, rfl, o2, x1⟩
        go_wp2_with fail
        go_ret
        exact ⟨rfl, x1⟩
      · have zi : decide (a1 < 1) = false := by simp; omega
        obtain ⟨i, rfl⟩ : ∃ i : Nat, a1 = (i : Int) := ⟨a1.toNat, by omega⟩
        by_cases hj : K ≤ i
        · have zj : (K : Int) ≤ (i : Int) := by omega
          go_enter Tryd.func6, Tryd.ntmps6
          go_wp2_with (go_at_call 21; refine (good_any _ _).mono ?_; rintro e w' ⟨rfl, rfl⟩)
          refine (ce.out _).mono ?_
          rintro e w1 ⟨A2, n2, c2, rfl, o2, x1⟩
          have hn2 : n2 = K := by have := o2.len; rw [nums_length, hK.out] at this; exact this
          subst hn2
          go_wp2_with fail
          go_ret
          exact ⟨rfl, x1⟩
        · have zj : decide ((K : Int) ≤ (i : Int)) = false := by simp; omega
          have i1 : 1 ≤ i := by omega
          have iK : i < K := by omega
          obtain ⟨L, hL⟩ : ∃ L, Hid ((encodeRune a0).set i B = L) := ⟨_, rfl⟩
          have hLl : Hid (L.length = K) := by show _ = _; rw [← hL.out, List.length_set, hK.out]
          have hd : Hid (dec (L ++ l3) = (65533, 1)) := by
            show _ = _
            rw [dec_of (by intro h; have := congrArg List.length h; rw [List.length_append, hLl.out] at this; simp at this <;> omega), ← hL.out]
            exact spoilt HG.out i i1 (by rw [hK.out]; exact iK) B HQ.out l3
          have hv : Hid (validB L = false) := by show _ = _; rw [← hL.out]; exact spoilt_valid HG.out i i1 (by rw [hK.out]; exact iK) B HQ.out
          have j1 : (i : Int) < (K : Int) := by omega
          clear hi hj
          go_enter Tryd.func6, Tryd.ntmps6
          go_wp2_with (go_at_call 21; refine (good_any _ _).mono ?_; rintro e w' ⟨rfl, rfl⟩)
          refine (ce.out _).mono ?_
          rintro e w1 ⟨A2, n2, c2, rfl, o2, x1⟩
          have hn2 : n2 = K := by have := o2.len; rw [nums_length, hK.out] at this; exact this
          subst hn2
          obtain ⟨g, rfl⟩ := own_addr o2 (by omega)
          have hg2 := (o2.lt (g := g) rfl).1
          have hfz := own_free o2 i
          obtain ⟨b', off', v, hA, hb', c2', _⟩ := o2.sl.at_ iK
          have hab : g = b' ∧ 0 = off' := by injection hA with hA; injection hA with h1 h2; exact ⟨h1, h2⟩
          obtain ⟨rfl, rfl⟩ := hab
          clear hA
          rw [Nat.zero_add] at c2'
          obtain ⟨o5, _⟩ := own_set o2 i a2
          have x2 : Nx w (w1.setCell ⟨g, i, none⟩ (.int .u8 a2)) := x1.setCell hg2 _
          have HE : Hid ((nums (encodeRune a0)).set i a2 = nums L) := by show _ = _; rw [HB.out, nums_set, hL.out]
          rw [HE.out] at o5
          have hc5 := o5.cap_.1
          go_wp2_with fail
          refine (joined_any _ _ _ L _ _ _ l3 _ o5.sl (e3.next x2) (by omega)).mono ?_
          rintro e w5 ⟨A5, n5, c5, rfl, o6, x5⟩
          have y5 := x2.trans x5
          have s5 : By w5 (some ⟨g, 0, none⟩) n2 L := o5.sl.next x5
          clear o2 o5 c2' hfz
          go_wp2_with fail
          refine (decode_any _ _ _ (L ++ l3) _ (hT.next y5) o6.sl).mono ?_
          rw [hd.out]
          rintro e w6 ⟨rfl, x6⟩
          have y6 := y5.trans x6
          go_wp2_with fail
          refine (valid_any _ _ _ L _ (hT.next y6) (s5.next x6) hc5 (by omega)).mono ?_
          rw [hv.out]
          rintro e w7 ⟨rfl, x7⟩
          go_wp2_with (go_at_call 25; refine (cs.out _).mono ?_; rintro e w' ⟨rfl, rfl⟩)
          go_ret
          exact ⟨rfl, y6.trans x7⟩
namespace fnSpoiltByte
open Go.ChangeShapes Go.WideShapes Go.ChangeAt Go.RowKit
open Go.ChangeMaps (open_string shut_string)
set_option maxRecDepth 100000 in
set_option linter.unusedVariables false in
theorem laid_met (os : Os) : laidMet Tryd.prog Rows.fnSpoiltByteRow.laid ((laidWorld os).forCall (fun _ _ => 0) ⟨#[], #[.int .i32 0, .int .i64 0, .int .u8 0, .slice none 0 0], []⟩).memory :=
  laidMet_of_run' 8 (by kernel_rfl) (by kernel_rfl)
theorem reads (os : Os) {H : Type} (enc : TypeId × Value → H) : ∃ places, DataW.whole enc Tryd.prog ((laidWorld os).forCall (fun _ _ => 0) ⟨#[], #[.int .i32 0, .int .i64 0, .int .u8 0, .slice none 0 0], []⟩).memory Tryd.f6.params.toList Rows.fnSpoiltByteSpec.vars false (#[.int .i32 0, .int .i64 0, .int .u8 0, .slice none 0 0] : Array Value).toList 8 = some ([.lit (.int .i32 0), .lit (.int .i64 0), .lit (.int .u8 0), .nil], [], places) :=
  ⟨[], by kernel_rfl⟩
set_option maxRecDepth 100000 in
set_option linter.unusedVariables false in
theorem lifted (os : Os) (started : os.Started) (H : Type) (enc : TypeId × Value → H) (F : Stop.Interp) :
    ReturnsInHanded {} Tryd.checked os 6 .any ((OpenSpec.ofChange Rows.fnSpoiltByteSpec).preRow enc Tryd.prog Tryd.f6 Rows.fnSpoiltByteRow.domain false Rows.fnSpoiltByteRow.laid) (((OpenSpec.ofChange Rows.fnSpoiltByteSpec).at F).post enc Tryd.prog Tryd.f6 false true false false) := by
  obtain ⟨places, hx⟩ := reads os enc
  refine returnsInHanded_of_row (C := Tryd.checked) (s := (OpenSpec.ofChange Rows.fnSpoiltByteSpec)) own started (by kernel_rfl) Tryd.func6
    (witness_row_at (enc := enc) (C := Tryd.checked) false (laidWorld os) #[.int .i32 0, .int .i64 0, .int .u8 0, .slice none 0 0] rfl (by kernel_rfl) (by kernel_rfl) (by kernel_rfl)
      (OpenSpec.preRow_of_cond 8 hx (by kernel_rfl) (fun k hk => by cases hk) (by kernel_rfl) (laid_met os))) ?_
  intro W base args ds gs before hval0 hW _ hkk hsz0 hL _ _
  have hsz : (DataW.weightsEach Tryd.prog (Tryd.f6.params.toList ++ (OpenSpec.ofChange Rows.fnSpoiltByteSpec).bare.plain.varTypes Tryd.prog) (ds ++ gs)).all (· ≤ reachBytes) = true := hsz0
  rw [Tryd.params6] at hsz
  have hval : ∀ (j : Nat) t v, Tryd.f6.params[j]? = some t → args[j]? = some v → Value.okWide Tryd.prog W .any base t v := hval0
  have hW' := hW
  obtain ⟨p, q, hA0, hV, rfl, hfz, hnd⟩ := hW
  have hA : DataW.TrodAll enc Tryd.prog W 0 (fun _ => true) true Tryd.f6.params.toList args.toList ds p := hA0
  rw [Tryd.params6] at hA hval
  obtain ⟨v0, vs0, d0, ds0, p0, q0, hargs, rfl, rfl, h0, r0⟩ := trodAll_cons hA
  obtain ⟨v1, vs1, d1, ds1, p1, q1, rfl, rfl, rfl, h1, r1⟩ := trodAll_cons r0
  obtain ⟨v2, vs2, d2, ds2, p2, q2, rfl, rfl, rfl, h2, r2⟩ := trodAll_cons r1
  obtain ⟨v3, vs3, d3, ds3, p3, q3, rfl, rfl, rfl, h3, r3⟩ := trodAll_cons r2
  obtain ⟨rfl, rfl, rfl⟩ := trodAll_nil r3
  obtain rfl : args = #[v0, v1, v2, v3] := by cases args; simp_all
  obtain ⟨rfl, rfl⟩ := trodVars_none hV
  have k0 := h0
  have lt0 : ∀ x ∈ p0, x.block < W.heap.size := by obtain ⟨m, hm⟩ := k0; exact DataW.trod_lt m _ _ _ hm
  obtain ⟨a0, rfl, rfl, rfl, w0⟩ := open_int Tryd.underlying21 (hval 0 21 v0 rfl rfl) h0
  have b0 : -2147483648 ≤ a0 ∧ a0 ≤ 2147483647 := by simpa [Lit.wf, IntKind.min, IntKind.max, IntKind.signed, IntKind.bits] using w0
  have k1 := h1
  have lt1 : ∀ x ∈ p1, x.block < W.heap.size := by obtain ⟨m, hm⟩ := k1; exact DataW.trod_lt m _ _ _ hm
  obtain ⟨a1, rfl, rfl, rfl, w1⟩ := open_int Tryd.underlying2 (hval 1 2 v1 rfl rfl) h1
  have b1 : -9223372036854775808 ≤ a1 ∧ a1 ≤ 9223372036854775807 := by simpa [Lit.wf, IntKind.min, IntKind.max, IntKind.signed, IntKind.bits] using w1
  have k2 := h2
  have lt2 : ∀ x ∈ p2, x.block < W.heap.size := by obtain ⟨m, hm⟩ := k2; exact DataW.trod_lt m _ _ _ hm
  obtain ⟨a2, rfl, rfl, rfl, w2⟩ := open_int Tryd.underlying5 (hval 2 5 v2 rfl rfl) h2
  have b2 : 0 ≤ a2 ∧ a2 ≤ 255 := by simpa [Lit.wf, IntKind.min, IntKind.max, IntKind.signed, IntKind.bits] using w2
  have k3 := h3
  have lt3 : ∀ x ∈ p3, x.block < W.heap.size := by obtain ⟨m, hm⟩ := k3; exact DataW.trod_lt m _ _ _ hm
  obtain ⟨A3, n3, c3, l3, rfl, e3, g3, m3, u3⟩ := open_by Tryd.underlying22 Tryd.underlying5 (by kernel_rfl) (hval 3 22 v3 rfl rfl) h3
  have z3 : c3 ≤ 140737488351232 := by have := held_size (j := 3) (t := 22) (b := 1) hsz (by kernel_rfl) (by rfl) rfl Tryd.underlying22 u3; omega
  clear hA0 hval0
  refine (fnSpoiltByte_walk a0 a1 a2 A3 n3 c3 l3 W (tabs hL) b0 b1 b2 e3 g3 z3).mono fun e W' ⟨he, bel⟩ => ?_
  subst he
  exact ⟨_, rfl, _, _, _, [], _, [], hW', trodAll_mk1 (shut_bool Tryd.underlying4 _), (trodAll_cons_mk (shut_int Tryd.underlying21 w0) (trodAll_cons_mk (shut_int Tryd.underlying2 w1) (trodAll_cons_mk (shut_int Tryd.underlying5 w2) (trodAll_cons_mk (Below.trod laidOut (by kernel_rfl) (of_decide_eq_true (by kernel_rfl)) k3 bel.out lt3) trodAll_mk0)))), rfl, bel.out.frame _, fun h => by cases h⟩
theorem row : Rows.FnSpoiltByteSaid :=
  OpenClaim.holds_of_cond 6 Tryd.f6 rfl rfl rfl rfl rfl rfl rfl ⟨rfl, rfl, rfl, rfl, rfl⟩ rfl rfl rfl rfl rfl (by kernel_rfl) Tryd.func6 (by kernel_rfl)
    (of_decide_eq_true (by kernel_rfl)) (by unfold Func.isWrapper; first | (rw [if_pos (by decide +kernel)]; kernel_rfl) | (rw [if_neg (by decide +kernel)]; exact ⟨rfl, rfl⟩))
    (fun os started H enc _ F => by rw [OpenClaim.pre_eq_preRow]; exact lifted os started H enc F)
theorem plain (f : FuncId) (fn : Func) (hf : Tryd.pinned.checked.prog.funcNamed Rows.fnSpoiltByteRow.func = some f) (hfn : Tryd.pinned.checked.prog.funcs[f]? = some fn) :
    false = Tryd.pinned.checked.prog.looks [] ∧ ∀ (j : Nat) t, fn.params[j]? = some t → Tryd.pinned.checked.prog.wantsStandIn t = false := by
  obtain rfl : f = 6 := Option.some.inj ((show Tryd.prog.funcNamed Rows.fnSpoiltByteRow.func = some 6 by kernel_rfl).symm.trans hf) |>.symm
  obtain rfl : fn = Tryd.f6 := (Option.some.inj (Tryd.func6.symm.trans hfn)).symm
  refine ⟨by kernel_rfl, fun j t ht => ?_⟩
  rw [Tryd.params6] at ht
  have hm := Array.mem_of_getElem? ht
  have hor : t = 2 ∨ t = 5 ∨ t = 21 ∨ t = 22 := by simp at hm; first | exact hm.symm | (rcases hm with h | h <;> simp [h]) | (rcases hm with h | h | h <;> simp [h]) | (rcases hm with h | h | h | h <;> simp [h])
  rcases hor with rfl | rfl | rfl | rfl
  · exact (show Tryd.prog.wantsStandIn 2 = false by kernel_rfl)
  · exact (show Tryd.prog.wantsStandIn 5 = false by kernel_rfl)
  · exact (show Tryd.prog.wantsStandIn 21 = false by kernel_rfl)
  · exact (show Tryd.prog.wantsStandIn 22 = false by kernel_rfl)
theorem said : Rows.FnSpoiltByteCardSaid :=
  Claim7.holds_tied_plain_at .later [] _ _ _ _ row (fun _ h => by cases h) (by kernel_rfl) (fun _ h => by cases h) fnSpoiltByte_row_tie rfl ⟨rfl, rfl⟩ (by kernel_rfl) rfl plain (by kernel_rfl)
end fnSpoiltByte
end Go.Proofs.YtcgpnmlemjldaaaDoor
