/- FnToValidRuns: the result is the valid runes with one replacement for each run of bytes that are none: it has the length of both. The condition: what is read is of bulk at most 1048576; the tables are those that the program lays. -/
import Derived.Test.YtpijokiagkhdeaaDoorFrame
import Derived.Test.YtpijokiagkhdeaaDoorToValid
import Derived.Test.YtpijokiagkhdeaaDoorSpecValid
import Derived.Test.YtpijokiagkhdeaaDoorPlainH
namespace Go.Proofs.YtpijokiagkhdeaaDoor
open Go.RowKit Go.Lib
set_option linter.unusedVariables false
set_option maxRecDepth 100000 in
set_option maxHeartbeats 4000000 in
theorem fnToValidRuns_walk (s0 s1 : ByteArray) (w : World) (hT : Tabs w) (m0 : s0.size ≤ 1048576) (m1 : s1.size ≤ 1048576) (_hu : s0.size + s1.size ≤ 1048576) :
    Calls Tryd.prog 10 #[.string s0, .string s1] w fun e w' => e = .returned (.bool true) ∧ Nx w w' := by
  obtain ⟨L, hL⟩ : ∃ R, Hid (s0.data.toList = R) := ⟨_, rfl⟩
  have LL : Hid (L.length = s0.size) := by show _ = _; rw [← hL.out, size_list]
  have hcv := fun W => run_str_bytes (P := Tryd.prog) 9 30 5 Tryd.underlying9 Tryd.underlying30 Tryd.underlying5 s0 W
  have xs := nx_str_bytes 5 s0 w
  obtain ⟨O, hO⟩ : ∃ O, Hid (toV s1.data.toList false L = O) := ⟨_, rfl⟩
  have hOl : O.length ≤ 1099512676352 := by rw [← hO.out]; exact toV_small (by rw [LL.out]; exact m0) (by rw [size_list]; exact m1) false
  obtain ⟨X, hX⟩ : ∃ X, Hid (strOf O = X) := ⟨_, rfl⟩
  have hXs : Hid (X.size = O.length) := by show _ = _; rw [← hX.out, strOf_size]
  obtain ⟨O', hO'⟩ : ∃ O, Hid (toV [] false L = O) := ⟨_, rfl⟩
  have hOl' : O'.length ≤ 1099512676352 := by rw [← hO'.out]; exact toV_small (by rw [LL.out]; exact m0) (by simp) false
  obtain ⟨X', hX'⟩ : ∃ X, Hid (strOf O' = X) := ⟨_, rfl⟩
  have hXs' : Hid (X'.size = O'.length) := by show _ = _; rw [← hX'.out, strOf_size]
  have hXd' : Hid (X'.data.toList = O') := by show _ = _; rw [← hX'.out, strOf_data]
  have hOv' : Hid (validB O' = true) := by show _ = _; rw [← hO'.out]; exact toV_ok rfl _ _
  have c0 := Lib.hid fun W (h : Tabs W) => toValid_any s0 s1 W h (by omega) (by rw [hL.out, hO.out]; omega)
  rw [hL.out, hO.out, hX.out] at c0
  have c1 := Lib.hid fun W (h : Tabs W) => toValid_any s0 ⟨#[]⟩ W h (by show s0.size + 0 ≤ _; omega) (by show (toV [] false s0.data.toList).length ≤ _; rw [hL.out, hO'.out]; omega)
  have hOO : toV (ByteArray.mk #[]).data.toList false s0.data.toList = O' := by rw [hL.out]; exact hO'.out
  rw [hOO, hX'.out] at c1
  clear hOO
  go_enter Tryd.func10, Tryd.ntmps10
  go_wp2_with fail
  refine (steps_any _ _ _ s0.data.toList _ (by_str_bytes _ _ _) (grownCap_ge _ _ _ _) (by omega)).mono ?_
  rw [hL.out]
  rintro e w1 ⟨B1, b1, d1, B2, b2, d2, B3, b3, d3, rfl, _, oR, oS, x1⟩
  have y1 := xs.trans x1
  clear hcv
  have e2 : b2 = (steps L).length := by rw [oR.len]; simp [runesL]
  have e3 : b3 = (steps L).length := by rw [oS.len]; simp [sizesL]
  have hcl : (steps L).length ≤ s0.size := by have := steps_len L; rw [LL.out] at this; exact this
  obtain ⟨N, hNN⟩ : ∃ N, (steps L).length = N := ⟨_, rfl⟩
  rw [hNN] at e2 e3 hcl
  have HN0 := Lib.hid hNN
  subst e3
  subst e2
  have sR := oR.sl
  have sS := oS.sl
  clear oR oS hNN
  go_wp2_with fail
  go_loop [8, 9, 10] (fun a c i => ∃ (k kp rn : Nat), k ≤ b2 ∧ kp ≤ s0.size ∧ rn ≤ k ∧ i = .int .i64 k ∧ a = .int .i64 kp ∧ c = .int .i64 rn ∧ Hid (keptL ((steps L).take k) = kp) ∧ Hid (runsL false ((steps L).take k) = rn)) (fun _ _ i => b2 - (RowKit.intOf i).toNat)
  case atStart => exact ⟨0, 0, 0, Nat.zero_le _, Nat.zero_le _, Nat.le_refl _, rfl, rfl, rfl, rfl, rfl⟩
  case round =>
    obtain ⟨k, kp, rn, hk, hkb, hrb, rfl, rfl, rfl, hkp, hrn⟩ := hrel
    by_cases hlt : k < b2
    · obtain ⟨gr, fr, rfl, _, cr⟩ := sR.open_ (by omega)
      obtain ⟨gs, fs, rfl, _, cs⟩ := sS.open_ (by omega)
      have CR := Lib.hid cr
      have CS := Lib.hid cs
      clear cr cs sR sS
      have hks : k < (steps L).length := by rw [HN0.out]; exact hlt
      obtain ⟨D1, D2, hD⟩ : ∃ D1 D2, Hid ((steps L)[k]'hks = (D1, D2)) := ⟨_, _, rfl⟩
      have cr0 := CR.out k hlt
      have cs0 := CS.out k hlt
      rw [runesL_getD L k hks, hD.out] at cr0
      rw [sizesL_getD L k hks, hD.out] at cs0
      simp only at cr0 cs0
      have TK : Hid ((steps L).take (k + 1) = (steps L).take k ++ [(D1, D2)]) := by show _ = _; rw [List.take_succ_eq_append_getElem hks, hD.out]
      have k1 : (k : Int) < (b2 : Int) := by omega
      have hkd : Hid (¬ (D1 = 65533 ∧ D2 = 1) → kp + D2 ≤ s0.size) := by
        intro h
        have h1 := total_take L (k + 1)
        have h2 := kept_le ((steps L).take (k + 1))
        have hw : wrongB (D1, D2) = false := by
          unfold wrongB
          cases h3 : (D1 == 65533 && D2 == 1) with
          | false => rfl
          | true => rw [Bool.and_eq_true, beq_iff_eq, beq_iff_eq] at h3; exact absurd h3 h
        rw [TK.out, keptL_snoc, hkp.out, hw] at h2
        rw [TK.out, LL.out] at h1
        simp only [Bool.false_eq_true, if_false] at h2
        omega
      by_cases hw : D1 = 65533 ∧ D2 = 1
      · obtain ⟨w1', w2'⟩ := hw
        have z1 : ((D1 : Int) == 65533) = true := by simp; omega
        have z2 : ((D2 : Int) == 1) = true := by simp; omega
        have HW : Hid (wrongB (D1, D2) = true) := by show _ = _; unfold wrongB; simp [w1', w2']
        clear w1' w2'
        by_cases hk0 : k = 0
        · have zk : ((k : Int) == 0) = true := by simp; omega
          have HL0 : Hid (lastW false ((steps L).take k) = false) := by show _ = _; rw [hk0]; rfl
          clear hk0
          go_wp2_with fail
          go_round
          case rel => exact ⟨k + 1, kp, rn + 1, by omega, by omega, by omega, by go_num, by rfl, by go_num, by show _ = _; rw [TK.out, keptL_snoc, hkp.out, HW.out]; rfl, by show _ = _; rw [TK.out, runsL_snoc, hrn.out, HW.out]; (rw [HL0.out]; rfl)⟩
          case measure => simp [RowKit.intOf]; omega
        · have zk : ((k : Int) == 0) = false := by simp; omega
          obtain ⟨j, hjk⟩ : ∃ j, k = j + 1 := ⟨k - 1, by omega⟩
          have hjs : j < (steps L).length := by omega
          obtain ⟨E1, E2, hE⟩ : ∃ D1 D2, Hid ((steps L)[j]'hjs = (D1, D2)) := ⟨_, _, rfl⟩
          have cr1 := CR.out j (by omega)
          have cs1 := CS.out j (by omega)
          rw [runesL_getD L j hjs, hE.out] at cr1
          rw [sizesL_getD L j hjs, hE.out] at cs1
          simp only at cr1 cs1
          have j1 : (j : Int) < (b2 : Int) := by omega
          have LW : Hid (lastW false ((steps L).take k) = wrongB (E1, E2)) := by show _ = _; rw [hjk, lastW_take _ j hjs, hE.out]
          subst hjk
          by_cases hE1 : E1 = 65533
          · have y1' : ((E1 : Int) != 65533) = false := by simp; omega
            by_cases hE2 : E2 = 1
            · have y2 : ((E2 : Int) != 1) = false := by simp; omega
              have HLW : Hid (wrongB (E1, E2) = true) := by show _ = _; unfold wrongB; simp [hE1, hE2]
              clear hE1 hE2 hk0
              go_wp2_with fail
              go_round
              case rel => exact ⟨j + 1 + 1, kp, rn, by omega, by omega, by omega, by go_num, by rfl, by rfl, by show _ = _; rw [TK.out, keptL_snoc, hkp.out, HW.out]; rfl, by show _ = _; rw [TK.out, runsL_snoc, hrn.out, HW.out]; (rw [LW.out, HLW.out]; rfl)⟩
              case measure => simp [RowKit.intOf]; omega
            · have y2 : ((E2 : Int) != 1) = true := by simp; omega
              have HLW : Hid (wrongB (E1, E2) = false) := by show _ = _; unfold wrongB; simp [hE2]
              clear hE1 hE2 hk0
              go_wp2_with fail
              go_round
              case rel => exact ⟨j + 1 + 1, kp, rn + 1, by omega, by omega, by omega, by go_num, by rfl, by go_num, by show _ = _; rw [TK.out, keptL_snoc, hkp.out, HW.out]; rfl, by show _ = _; rw [TK.out, runsL_snoc, hrn.out, HW.out]; (rw [LW.out, HLW.out]; rfl)⟩
              case measure => simp [RowKit.intOf]; omega
          · have y1' : ((E1 : Int) != 65533) = true := by simp; omega
            have HLW : Hid (wrongB (E1, E2) = false) := by show _ = _; unfold wrongB; simp [hE1]
            clear hE1 hk0
            go_wp2_with fail
            go_round
            case rel => exact ⟨j + 1 + 1, kp, rn + 1, by omega, by omega, by omega, by go_num, by rfl, by go_num, by show _ = _; rw [TK.out, keptL_snoc, hkp.out, HW.out]; rfl, by show _ = _; rw [TK.out, runsL_snoc, hrn.out, HW.out]; (rw [LW.out, HLW.out]; rfl)⟩
            case measure => simp [RowKit.intOf]; omega
      · have hkd2 := hkd.out hw
        have HW : Hid (wrongB (D1, D2) = false) := by
          show _ = _
          unfold wrongB
          cases h3 : (D1 == 65533 && D2 == 1) with
          | false => rfl
          | true => rw [Bool.and_eq_true, beq_iff_eq, beq_iff_eq] at h3; exact absurd h3 hw
        by_cases hw1 : D1 = 65533
        · have z1 : ((D1 : Int) == 65533) = true := by simp; omega
          have z2 : ((D2 : Int) == 1) = false := by simp; omega
          clear hw hw1
          go_wp2_with fail
          go_round
          case rel => exact ⟨k + 1, kp + D2, rn, by omega, by omega, by omega, by go_num, by go_num, by rfl, by show _ = _; rw [TK.out, keptL_snoc, hkp.out, HW.out]; rfl, by show _ = _; rw [TK.out, runsL_snoc, hrn.out, HW.out]; rfl⟩
          case measure => simp [RowKit.intOf]; omega
        · have z1 : ((D1 : Int) == 65533) = false := by simp; omega
          clear hw hw1
          go_wp2_with fail
          go_round
          case rel => exact ⟨k + 1, kp + D2, rn, by omega, by omega, by omega, by go_num, by go_num, by rfl, by show _ = _; rw [TK.out, keptL_snoc, hkp.out, HW.out]; rfl, by show _ = _; rw [TK.out, runsL_snoc, hrn.out, HW.out]; rfl⟩
          case measure => simp [RowKit.intOf]; omega
    · have hkN : k = b2 := by omega
      have hkf : keptL (steps L) = kp := by have := hkp.out; rwa [List.take_of_length_le (by rw [HN0.out]; omega)] at this
      have hrf : runsL false (steps L) = rn := by have := hrn.out; rwa [List.take_of_length_le (by rw [HN0.out]; omega)] at this
      have t0 := toV_count s1.data.toList L false
      rw [hO.out, hkf, hrf, size_list] at t0
      have t1 := toV_count [] L false
      rw [hO'.out, hkf, hrf] at t1
      simp only [List.length_nil, Nat.mul_zero, Nat.add_zero] at t1
      have hpb : rn * s1.size ≤ 1048576 * 1048576 := Nat.mul_le_mul (by omega) m1
      have hm : ((rn : Int) * (s1.size : Int)) = ((rn * s1.size : Nat) : Int) := by simp
      have m0' : (0 : Int) ≤ (rn : Int) * (s1.size : Int) := by rw [hm]; omega
      have m1' : (rn : Int) * (s1.size : Int) ≤ 1099511627776 := by rw [hm]; omega
      have zx : ((X.size : Int) == (kp : Int) + (rn : Int) * (s1.size : Int)) = true := by
        rw [hm]
        have := hXs.out
        simp only [beq_iff_eq]
        omega
      have zx' : ((X'.size : Int) == (kp : Int)) = true := by
        have := hXs'.out
        simp only [beq_iff_eq]
        omega
      have hXb : X'.size ≤ 1099512676352 := by have := hXs'.out; omega
      clear hm hpb t0 t1 hkf hrf hkN hkp hrn
      go_wp2_with fail
      refine (c1.out _ (hT.next y1)).mono ?_
      rintro e w2 ⟨rfl, x2⟩
      have y2 := y1.trans x2
      go_wp2_with fail
      refine (c0.out _ (hT.next y2)).mono ?_
      rintro e w3 ⟨rfl, x3⟩
      have y3 := y2.trans x3
      go_wp2_with fail
      refine (validS_any X' _ (hT.next y3) (by omega)).mono ?_
      rw [hXd'.out, hOv'.out]
      rintro e w4 ⟨rfl, x4⟩
      go_wp2_with fail
      go_ret
      exact ⟨rfl, y3.trans x4⟩
namespace fnToValidRuns
open Go.ChangeShapes Go.WideShapes Go.ChangeAt Go.RowKit
open Go.ChangeMaps (open_string shut_string)
set_option maxRecDepth 100000 in
set_option linter.unusedVariables false in
theorem laid_met (os : Os) : laidMet Tryd.prog Rows.fnToValidRunsUptoRow.laid ((laidWorld os).forCall (fun _ _ => 0) ⟨#[], #[.string ⟨#[]⟩, .string ⟨#[]⟩], []⟩).memory :=
  laidMet_of_run' 8 (by kernel_rfl) (by kernel_rfl)
theorem reads (os : Os) {H : Type} (enc : TypeId × Value → H) : ∃ places, DataW.whole enc Tryd.prog ((laidWorld os).forCall (fun _ _ => 0) ⟨#[], #[.string ⟨#[]⟩, .string ⟨#[]⟩], []⟩).memory Tryd.f10.params.toList Rows.fnToValidRunsSpec.vars false (#[.string ⟨#[]⟩, .string ⟨#[]⟩] : Array Value).toList 8 = some ([.lit (.string []), .lit (.string [])], [], places) :=
  ⟨[], by kernel_rfl⟩
set_option maxRecDepth 100000 in
set_option linter.unusedVariables false in
theorem lifted (os : Os) (started : os.Started) (H : Type) (enc : TypeId × Value → H) (F : Stop.Interp) :
    ReturnsInHanded {} Tryd.checked os 10 .any ((Rows.OpenSpec.upto Rows.fnToValidRunsSpec).preRow enc Tryd.prog Tryd.f10 Rows.fnToValidRunsUptoRow.domain false Rows.fnToValidRunsUptoRow.laid) (((Rows.OpenSpec.upto Rows.fnToValidRunsSpec).at F).post enc Tryd.prog Tryd.f10 false true false false) := by
  obtain ⟨places, hx⟩ := reads os enc
  refine returnsInHanded_of_row (C := Tryd.checked) (s := (Rows.OpenSpec.upto Rows.fnToValidRunsSpec)) own started (by kernel_rfl) Tryd.func10
    (witness_row_at (enc := enc) (C := Tryd.checked) false (laidWorld os) #[.string ⟨#[]⟩, .string ⟨#[]⟩] rfl (by kernel_rfl) (by kernel_rfl) (by kernel_rfl)
      (OpenSpec.preRow_of_cond 8 hx (by kernel_rfl) (fun k hk => by cases hk; kernel_rfl) (by kernel_rfl) (laid_met os))) ?_
  intro W base args ds gs before hval0 hW _ hkk hsz0 hL _ _
  have hk := hkk _ rfl
  have hval : ∀ (j : Nat) t v, Tryd.f10.params[j]? = some t → args[j]? = some v → Value.okWide Tryd.prog W .any base t v := hval0
  have hW' := hW
  obtain ⟨p, q, hA0, hV, rfl, hfz, hnd⟩ := hW
  have hA : DataW.TrodAll enc Tryd.prog W 0 (fun _ => true) true Tryd.f10.params.toList args.toList ds p := hA0
  rw [Tryd.params10] at hA hval
  obtain ⟨v0, vs0, d0, ds0, p0, q0, hargs, rfl, rfl, h0, r0⟩ := trodAll_cons hA
  obtain ⟨v1, vs1, d1, ds1, p1, q1, rfl, rfl, rfl, h1, r1⟩ := trodAll_cons r0
  obtain ⟨rfl, rfl, rfl⟩ := trodAll_nil r1
  obtain rfl : args = #[v0, v1] := by cases args; simp_all
  obtain ⟨rfl, rfl⟩ := trodVars_none hV
  have k0 := h0
  have lt0 : ∀ x ∈ p0, x.block < W.heap.size := by obtain ⟨m, hm⟩ := k0; exact DataW.trod_lt m _ _ _ hm
  obtain ⟨s0, rfl, rfl, rfl, w0⟩ := open_string Tryd.underlying9 (hval 0 9 v0 rfl rfl) h0
  have z0 : s0.size ≤ 1048576 := by have := bulk_str (H := H) s0; have hb := bulk_bound hk; simp only [Rows.uptoBulkAll, List.append_nil] at hb; omega
  have k1 := h1
  have lt1 : ∀ x ∈ p1, x.block < W.heap.size := by obtain ⟨m, hm⟩ := k1; exact DataW.trod_lt m _ _ _ hm
  obtain ⟨s1, rfl, rfl, rfl, w1⟩ := open_string Tryd.underlying9 (hval 1 9 v1 rfl rfl) h1
  have z1 : s1.size ≤ 1048576 := by have := bulk_str (H := H) s1; have hb := bulk_bound hk; simp only [Rows.uptoBulkAll, List.append_nil] at hb; omega
  have hu : s0.size + s1.size ≤ 1048576 := by have q0 := bulk_str (H := H) s0; have q1 := bulk_str (H := H) s1; have hb := bulk_bound hk; simp only [Rows.uptoBulkAll, List.append_nil] at hb; omega
  clear hA0 hval0
  refine (fnToValidRuns_walk s0 s1 W (tabs hL) z0 z1 hu).mono fun e W' ⟨he, bel⟩ => ?_
  subst he
  exact ⟨_, rfl, _, _, _, [], _, [], hW', trodAll_mk1 (shut_bool Tryd.underlying4 _), (trodAll_cons_mk (shut_string Tryd.underlying9 w0) (trodAll_cons_mk (shut_string Tryd.underlying9 w1) trodAll_mk0)), rfl, bel.out.frame _, fun h => by cases h⟩
theorem row : Rows.FnToValidRunsUptoSaid :=
  OpenClaim.holds_of_cond 10 Tryd.f10 rfl rfl rfl rfl rfl rfl rfl ⟨rfl, rfl, rfl, rfl, rfl⟩ rfl rfl rfl rfl rfl (by kernel_rfl) Tryd.func10 (by kernel_rfl)
    (of_decide_eq_true (by kernel_rfl)) (by unfold Func.isWrapper; first | (rw [if_pos (by decide +kernel)]; kernel_rfl) | (rw [if_neg (by decide +kernel)]; exact ⟨rfl, rfl⟩))
    (fun os started H enc _ F => by rw [OpenClaim.pre_eq_preRow]; exact lifted os started H enc F)
theorem plain (f : FuncId) (fn : Func) (hf : Tryd.pinned.checked.prog.funcNamed Rows.fnToValidRunsUptoRow.func = some f) (hfn : Tryd.pinned.checked.prog.funcs[f]? = some fn) :
    false = Tryd.pinned.checked.prog.looks [] ∧ ∀ (j : Nat) t, fn.params[j]? = some t → Tryd.pinned.checked.prog.wantsStandIn t = false := by
  obtain rfl : f = 10 := Option.some.inj ((show Tryd.prog.funcNamed Rows.fnToValidRunsUptoRow.func = some 10 by kernel_rfl).symm.trans hf) |>.symm
  obtain rfl : fn = Tryd.f10 := (Option.some.inj (Tryd.func10.symm.trans hfn)).symm
  refine ⟨by kernel_rfl, fun j t ht => ?_⟩
  rw [Tryd.params10] at ht
  have hm := Array.mem_of_getElem? ht
  have hor : t = 9 := by simp at hm; omega
  subst hor
  exact (show Tryd.prog.wantsStandIn 9 = false by kernel_rfl)
theorem said : Rows.FnToValidRunsUptoCardSaid :=
  Claim7.holds_tied_plain_at .later [] _ _ _ _ row (fun _ h => by cases h) (by kernel_rfl) (fun _ h => by cases h) fnToValidRunsUpto_row_tie rfl ⟨rfl, rfl⟩ (by kernel_rfl) rfl plain (by kernel_rfl)
end fnToValidRuns
end Go.Proofs.YtpijokiagkhdeaaDoor
