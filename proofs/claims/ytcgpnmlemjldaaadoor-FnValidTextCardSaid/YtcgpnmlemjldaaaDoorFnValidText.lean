/- FnValidText: the encodings of good runes are valid, have as many runes as the list, and as many bytes that can be first ones. The tables are those that the program lays. -/
import Derived.Test.YtcgpnmlemjldaaaDoorFrame
import Derived.Test.YtcgpnmlemjldaaaDoorDecodeU
import Derived.Test.YtcgpnmlemjldaaaDoorValidU
import Derived.Test.YtcgpnmlemjldaaaDoorCount
import Derived.Test.YtcgpnmlemjldaaaDoorRune
import Derived.Test.YtcgpnmlemjldaaaDoorStart
import Derived.Test.YtcgpnmlemjldaaaDoorText
import Derived.Test.YtcgpnmlemjldaaaDoorPlainF
namespace Go.Proofs.YtcgpnmlemjldaaaDoor
open Go.RowKit Go.Lib
set_option linter.unusedVariables false
set_option maxRecDepth 100000 in
set_option maxHeartbeats 2000000 in
theorem fnValidText_walk (A0 : Option Addr) (n0 c0 : Nat) (z0 : List Int) (w : World) (hT : Tabs w) (e0 : Sl .i32 w A0 n0 z0) (_b0 : ∀ z ∈ z0, -2147483648 ≤ z ∧ z ≤ 2147483647) (g0 : n0 ≤ c0) (m0 : c0 ≤ 35184372087808) :
    Calls Tryd.prog 13 #[.slice A0 n0 c0] w fun e w' => e = .returned (.bool true) ∧ Nx w w' := by
  have LX := Lib.hid e0.len
  clear _b0
  go_enter Tryd.func13, Tryd.ntmps13
  go_wp2
  go_loop [3, 4] (fun s i => ∃ k m : Nat, k ≤ n0 ∧ m ≤ 4 * k ∧ i = .int .i64 k ∧ s = .int .i64 m ∧ Hid ((text (z0.take k)).length = m) ∧ Hid (∀ z ∈ z0.take k, goodB z = true)) (fun _ i => n0 - (RowKit.intOf i).toNat)
  case atStart => exact ⟨0, 0, Nat.zero_le _, Nat.zero_le _, rfl, rfl, rfl, by simp [Hid]⟩
  case round =>
    obtain ⟨k, m, hk, hm, rfl, rfl, hml, hgs⟩ := hrel
    by_cases hlt : k < n0
    · obtain ⟨b, off, u, rfl, hb, q1, hu⟩ := e0.at_ hlt
      by_cases hg : goodB u = true
      · have hs : Hid (∀ z ∈ z0.take (k + 1), goodB z = true) := good_snoc (by rw [LX.out]; exact hlt) hgs.out (by rw [hu.out]; exact hg)
        obtain ⟨K, hK⟩ : ∃ K, Hid ((encodeRune u).length = K) := ⟨_, rfl⟩
        have hl := enc_length u
        rw [hK.out] at hl
        obtain ⟨k1, k4⟩ := hl
        have hml2 : Hid ((text (z0.take (k + 1))).length = m + K) := by
          show _ = _
          have := text_snoc z0 k (by rw [LX.out]; exact hlt)
          rw [hu.out] at this
          rw [this, List.length_append, hml.out, hK.out]
        have cl := Lib.hid fun w => len_any u w
        rw [lenZ_good hg, hK.out] at cl
        go_wp2_with (first | (go_at_call 21; refine (good_any _ _).mono ?_; rintro e w' ⟨rfl, rfl⟩) | (go_at_call 19; refine (cl.out _).mono ?_; rintro e w' ⟨rfl, rfl⟩))
        go_round
        case rel => exact ⟨k + 1, m + K, by omega, by omega, by go_num, by go_num, hml2, hs⟩
        case measure => simp [RowKit.intOf]; omega
      · have hg' : goodB u = false := by simpa using hg
        clear hg
        go_wp2_with (go_at_call 21; refine (good_any _ _).mono ?_; rintro e w' ⟨rfl, rfl⟩)
        go_ret
        exact ⟨rfl, Nx.refl _⟩
    · have hall : Hid (∀ z ∈ z0, goodB z = true) := good_all LX.out (by omega) hgs.out
      clear hgs
      obtain rfl : k = n0 := by omega
      have hml2 : Hid ((text z0).length = m) := by have := hml.out; rwa [List.take_of_length_le (by rw [LX.out]; exact Nat.le_refl _)] at this
      obtain ⟨X, hX⟩ : ∃ X, Hid (strOf (text z0) = X) := ⟨_, rfl⟩
      have hXs : X.size ≤ 4 * k := by have := (text_length z0).2; rw [← hX.out, strOf_size]; rw [LX.out] at this; omega
      have hXd : Hid (X.data.toList = text z0) := by show _ = _; rw [← hX.out, strOf_data]
      have hXl : Hid ((text z0).length = X.size) := by show _ = _; rw [← hX.out, strOf_size]
      have ct := Lib.hid fun W hx => text_any A0 k c0 z0 W hx (by omega)
      rw [hX.out] at ct
      have hcv := fun W => run_str_bytes (P := Tryd.prog) 9 22 5 Tryd.underlying9 Tryd.underlying22 Tryd.underlying5 X W
      go_wp2_with fail
      refine (ct.out _ e0).mono ?_
      rintro e w1 ⟨rfl, x1⟩
      have sb := by_str_bytes 5 X w1
      have xb := nx_str_bytes 5 X w1
      have hcap := grownCap_ge w1 X.size 0 5
      rw [hXd.out] at sb
      obtain ⟨C, hC⟩ : ∃ C, grownCap w1 X.size 0 5 = C := ⟨_, rfl⟩
      rw [hC] at hcap
      obtain ⟨w2, hw2⟩ : ∃ w2, (w1.alloc (bytesObj 5 X w1)).drew = w2 := ⟨_, rfl⟩
      rw [hw2] at sb xb
      have hcv1 := hcv w1
      rw [hw2, hC] at hcv1
      clear hcv hw2 hC
      have y2 := x1.trans xb
      obtain ⟨P0, hP0⟩ : ∃ P0, Hid ((some ⟨w1.heap.size, 0, none⟩ : Option Addr) = P0) := ⟨_, rfl⟩
      rw [hP0.out] at hcv1 sb
      have hmX : m = X.size := by rw [← hml2.out, hXl.out]
      subst hmX
      go_wp2_with fail
      clear hcv1
      go_loop [6, 7] (fun c i => ∃ (j s : Nat), j ≤ X.size ∧ s ≤ j ∧ i = .int .i64 j ∧ c = .int .i64 s ∧ Hid (starts ((text z0).take j) = s)) (fun _ i => X.size - (RowKit.intOf i).toNat)
      case atStart => exact ⟨0, 0, Nat.zero_le _, Nat.zero_le _, rfl, rfl, rfl⟩
      case round =>
        obtain ⟨j, s, hj, hs, rfl, rfl, hS⟩ := hrel
        by_cases hlt : j < X.size
        · obtain ⟨b, off, u, hA, hb, q1, u0, u1, hu⟩ := sb.at_ hlt
          subst hA
          have hst := starts_snoc (text z0) j (by rw [hXl.out]; exact hlt)
          rw [hS.out] at hst
          have hsb := start_byte ((text z0).getD j 0)
          rw [hu.out] at hsb
          cases hB : startB u with
          | true =>
            have hS' : Hid (starts ((text z0).take (j + 1)) = s + 1) := by
              show _ = _
              rw [hB] at hsb
              have := of_decide_eq_true hsb.symm
              rw [hst, if_pos this]
            clear hst hsb
            go_wp2_with (go_at_call 25; refine (start_any u _ u0 (by omega)).mono ?_; rintro e w' ⟨rfl, rfl⟩)
            go_round
            case rel => exact ⟨j + 1, s + 1, by omega, by omega, by go_num, by go_num, hS'⟩
            case measure => simp [RowKit.intOf]; omega
          | false =>
            have hS' : Hid (starts ((text z0).take (j + 1)) = s) := by
              show _ = _
              rw [hB] at hsb
              have := of_decide_eq_false hsb.symm
              rw [hst, if_neg this, Nat.add_zero]
            clear hst hsb
            go_wp2_with (go_at_call 25; refine (start_any u _ u0 (by omega)).mono ?_; rintro e w' ⟨rfl, rfl⟩)
            go_round
            case rel => exact ⟨j + 1, s, by omega, by omega, by go_num, rfl, hS'⟩
            case measure => simp [RowKit.intOf]; omega
        · have hsk : s = k := by
            rw [← hS.out, List.take_of_length_le (by rw [hXl.out]; omega), starts_text z0 hall.out, LX.out]
          subst hsk
          have HV := Lib.hid (validB_text' z0 hall.out)
          have HC : Hid (cnt (text z0) = s) := by show _ = _; rw [text_cnt hall.out, LX.out]
          have tb := fun W h => run_bytes_str (P := Tryd.prog) 22 9 5 Tryd.underlying22 Tryd.underlying5 Tryd.underlying9 W P0 X.size C (text z0) h
          have TB := Lib.hid tb
          clear tb
          have z1 : ((X.size : Int) == (X.size : Int)) = true := by simp
          have z2 : ((s : Int) == (s : Int)) = true := by simp
          go_wp2_with fail
          refine (valid_any _ _ _ (text z0) _ (hT.next y2) sb hcap (by omega)).mono ?_
          rw [HV.out]
          rintro e w3 ⟨rfl, x3⟩
          have y3 := y2.trans x3
          have t3 := TB.out w3 (sb.next x3)
          rw [hX.out] at t3
          go_wp2_with fail
          refine (validS_any X _ (hT.next y3) (by omega)).mono ?_
          rw [hXd.out, HV.out]
          rintro e w4 ⟨rfl, x4⟩
          have y4 := y3.trans x4
          clear t3
          go_wp2_with fail
          refine (count_any _ _ _ (text z0) _ ((sb.next x3).next x4) hcap (by omega)).mono ?_
          rw [HC.out]
          rintro e w5 ⟨rfl, x5⟩
          go_wp2_with fail
          go_ret
          exact ⟨rfl, y4.trans x5⟩
namespace fnValidText
open Go.ChangeShapes Go.WideShapes Go.ChangeAt Go.RowKit
open Go.ChangeMaps (open_string shut_string)
set_option maxRecDepth 100000 in
set_option linter.unusedVariables false in
theorem laid_met (os : Os) : laidMet Tryd.prog Rows.fnValidTextRow.laid ((laidWorld os).forCall (fun _ _ => 0) ⟨#[], #[.slice none 0 0], []⟩).memory :=
  laidMet_of_run' 8 (by kernel_rfl) (by kernel_rfl)
theorem reads (os : Os) {H : Type} (enc : TypeId × Value → H) : ∃ places, DataW.whole enc Tryd.prog ((laidWorld os).forCall (fun _ _ => 0) ⟨#[], #[.slice none 0 0], []⟩).memory Tryd.f13.params.toList Rows.fnValidTextSpec.vars false (#[.slice none 0 0] : Array Value).toList 8 = some ([.nil], [], places) :=
  ⟨[], by kernel_rfl⟩
set_option maxRecDepth 100000 in
set_option linter.unusedVariables false in
theorem lifted (os : Os) (started : os.Started) (H : Type) (enc : TypeId × Value → H) (F : Stop.Interp) :
    ReturnsInHanded {} Tryd.checked os 13 .any ((OpenSpec.ofChange Rows.fnValidTextSpec).preRow enc Tryd.prog Tryd.f13 Rows.fnValidTextRow.domain false Rows.fnValidTextRow.laid) (((OpenSpec.ofChange Rows.fnValidTextSpec).at F).post enc Tryd.prog Tryd.f13 false true false false) := by
  obtain ⟨places, hx⟩ := reads os enc
  refine returnsInHanded_of_row (C := Tryd.checked) (s := (OpenSpec.ofChange Rows.fnValidTextSpec)) own started (by kernel_rfl) Tryd.func13
    (witness_row_at (enc := enc) (C := Tryd.checked) false (laidWorld os) #[.slice none 0 0] rfl (by kernel_rfl) (by kernel_rfl) (by kernel_rfl)
      (OpenSpec.preRow_of_cond 8 hx (by kernel_rfl) (fun k hk => by cases hk) (by kernel_rfl) (laid_met os))) ?_
  intro W base args ds gs before hval0 hW _ hkk hsz0 hL _ _
  have hsz : (DataW.weightsEach Tryd.prog (Tryd.f13.params.toList ++ (OpenSpec.ofChange Rows.fnValidTextSpec).bare.plain.varTypes Tryd.prog) (ds ++ gs)).all (· ≤ reachBytes) = true := hsz0
  rw [Tryd.params13] at hsz
  have hval : ∀ (j : Nat) t v, Tryd.f13.params[j]? = some t → args[j]? = some v → Value.okWide Tryd.prog W .any base t v := hval0
  have hW' := hW
  obtain ⟨p, q, hA0, hV, rfl, hfz, hnd⟩ := hW
  have hA : DataW.TrodAll enc Tryd.prog W 0 (fun _ => true) true Tryd.f13.params.toList args.toList ds p := hA0
  rw [Tryd.params13] at hA hval
  obtain ⟨v0, vs0, d0, ds0, p0, q0, hargs, rfl, rfl, h0, r0⟩ := trodAll_cons hA
  obtain ⟨rfl, rfl, rfl⟩ := trodAll_nil r0
  obtain rfl : args = #[v0] := by cases args; simp_all
  obtain ⟨rfl, rfl⟩ := trodVars_none hV
  have k0 := h0
  have lt0 : ∀ x ∈ p0, x.block < W.heap.size := by obtain ⟨m, hm⟩ := k0; exact DataW.trod_lt m _ _ _ hm
  obtain ⟨A0, n0, c0, zz0, rfl, e0, g0, m0, w0, u0⟩ := open_sl Tryd.underlying39 Tryd.underlying21 (by kernel_rfl) (hval 0 39 v0 rfl rfl) h0
  have b0 : ∀ z ∈ zz0, -2147483648 ≤ z ∧ z ≤ 2147483647 := fun z hz => by simpa [Lit.wf, IntKind.min, IntKind.max, IntKind.signed, IntKind.bits] using w0 z hz
  have z0 : c0 ≤ 35184372087808 := by have := held_size (j := 0) (t := 39) (b := 4) hsz (by kernel_rfl) (by rfl) rfl Tryd.underlying39 u0; omega
  clear hA0 hval0
  refine (fnValidText_walk A0 n0 c0 zz0 W (tabs hL) e0 b0 g0 z0).mono fun e W' ⟨he, bel⟩ => ?_
  subst he
  exact ⟨_, rfl, _, _, _, [], _, [], hW', trodAll_mk1 (shut_bool Tryd.underlying4 _), (trodAll_cons_mk (Below.trod laidOut (by kernel_rfl) (of_decide_eq_true (by kernel_rfl)) k0 bel.out lt0) trodAll_mk0), rfl, bel.out.frame _, fun h => by cases h⟩
theorem row : Rows.FnValidTextSaid :=
  OpenClaim.holds_of_cond 13 Tryd.f13 rfl rfl rfl rfl rfl rfl rfl ⟨rfl, rfl, rfl, rfl, rfl⟩ rfl rfl rfl rfl rfl (by kernel_rfl) Tryd.func13 (by kernel_rfl)
    (of_decide_eq_true (by kernel_rfl)) (by unfold Func.isWrapper; first | (rw [if_pos (by decide +kernel)]; kernel_rfl) | (rw [if_neg (by decide +kernel)]; exact ⟨rfl, rfl⟩))
    (fun os started H enc _ F => by rw [OpenClaim.pre_eq_preRow]; exact lifted os started H enc F)
theorem plain (f : FuncId) (fn : Func) (hf : Tryd.pinned.checked.prog.funcNamed Rows.fnValidTextRow.func = some f) (hfn : Tryd.pinned.checked.prog.funcs[f]? = some fn) :
    false = Tryd.pinned.checked.prog.looks [] ∧ ∀ (j : Nat) t, fn.params[j]? = some t → Tryd.pinned.checked.prog.wantsStandIn t = false := by
  obtain rfl : f = 13 := Option.some.inj ((show Tryd.prog.funcNamed Rows.fnValidTextRow.func = some 13 by kernel_rfl).symm.trans hf) |>.symm
  obtain rfl : fn = Tryd.f13 := (Option.some.inj (Tryd.func13.symm.trans hfn)).symm
  refine ⟨by kernel_rfl, fun j t ht => ?_⟩
  rw [Tryd.params13] at ht
  have hm := Array.mem_of_getElem? ht
  have hor : t = 39 := by simp at hm; omega
  subst hor
  exact (show Tryd.prog.wantsStandIn 39 = false by kernel_rfl)
theorem said : Rows.FnValidTextCardSaid :=
  Claim7.holds_tied_plain_at .later [] _ _ _ _ row (fun _ h => by cases h) (by kernel_rfl) (fun _ h => by cases h) fnValidText_row_tie rfl ⟨rfl, rfl⟩ (by kernel_rfl) rfl plain (by kernel_rfl)
end fnValidText
end Go.Proofs.YtcgpnmlemjldaaaDoor
