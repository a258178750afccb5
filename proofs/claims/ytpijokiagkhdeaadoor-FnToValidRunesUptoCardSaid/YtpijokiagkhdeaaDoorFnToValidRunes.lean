/- FnToValidRunes: with RuneError as the replacement, runs of RuneErrors of one byte become one, and the runes are otherwise those of a range clause. The condition: what is read is of bulk at most 1048576; the tables are those that the program lays. -/
import Derived.Test.YtpijokiagkhdeaaDoorFrame
import Derived.Test.YtpijokiagkhdeaaDoorToValid
import Derived.Test.YtpijokiagkhdeaaDoorSpecValid
import Derived.Test.YtpijokiagkhdeaaDoorConv
import Derived.Test.YtpijokiagkhdeaaDoorRange
import Derived.Test.YtpijokiagkhdeaaDoorSame
import Derived.Test.YtpijokiagkhdeaaDoorPlainH
namespace Go.Proofs.YtpijokiagkhdeaaDoor
open Go.RowKit Go.Lib
set_option linter.unusedVariables false
set_option maxRecDepth 100000 in
set_option maxHeartbeats 4000000 in
theorem fnToValidRunes_walk (s0 : ByteArray) (w : World) (hT : Tabs w) (m0 : s0.size ≤ 1048576) :
    Calls Tryd.prog 3 #[.string s0] w fun e w' => e = .returned (.bool true) ∧ Nx w w' := by
  obtain ⟨j0, hj0, hy0, hy1, hy2⟩ := info_parts i32_info
  obtain ⟨L, hL⟩ : ∃ R, Hid (s0.data.toList = R) := ⟨_, rfl⟩
  have LL : Hid (L.length = s0.size) := by show _ = _; rw [← hL.out, size_list]
  have hcv := fun W => run_str_bytes (P := Tryd.prog) 9 30 5 Tryd.underlying9 Tryd.underlying30 Tryd.underlying5 s0 W
  obtain ⟨E, hE⟩ : ∃ E, Hid (strOf (encodeRune 65533) = E) := ⟨_, rfl⟩
  have hEd : Hid (E.data.toList = encodeRune 65533) := by show _ = _; rw [← hE.out, strOf_data]
  have hEs : E.size = 3 := by rw [← hE.out, strOf_size]; decide
  have ce := Lib.hid fun W => stringOfRune_any 65533 W
  rw [hE.out] at ce
  obtain ⟨O, hO⟩ : ∃ O, Hid (toV (encodeRune 65533) false L = O) := ⟨_, rfl⟩
  have hOl : O.length ≤ 1099512676352 := by rw [← hO.out]; exact toV_small (by rw [LL.out]; exact m0) (by decide) false
  obtain ⟨X, hX⟩ : ∃ X, Hid (strOf O = X) := ⟨_, rfl⟩
  have hXs : X.size ≤ 1099512676352 := by rw [← hX.out, strOf_size]; exact hOl
  have hXd : Hid (X.data.toList = O) := by show _ = _; rw [← hX.out, strOf_data]
  have hrn : Hid (runesL O = dueL false (steps L)) := by show _ = _; rw [← hO.out]; exact toV_runes L false
  have c0 := Lib.hid fun W (h : Tabs W) => toValid_any s0 E W h (by omega) (by rw [hL.out, hEd.out, hO.out]; omega)
  rw [hL.out, hEd.out, hO.out, hX.out] at c0
  have cr := Lib.hid fun W => range_any X W (by omega)
  rw [hXd.out] at cr
  unfold RangePost at cr
  rw [hrn.out] at cr
  go_enter Tryd.func3, Tryd.ntmps3
  go_wp2_with (go_at_call 16; refine (ce.out _).mono ?_; rintro e w' ⟨rfl, rfl⟩)
  refine (c0.out _ hT).mono ?_
  rintro e w1 ⟨rfl, x1⟩
  go_wp2_with fail
  refine (cr.out _).mono ?_
  rintro e w2 ⟨G1, q1, f1, G2, q2, f2, rfl, _, oG, _, x2⟩
  have HQ2 : Hid (q2 = (dueL false (steps L)).length) := oG.len
  have sG := oG.sl
  have y2 := x1.trans x2
  have xs := nx_str_bytes 5 s0 w2
  go_wp2_with fail
  refine (steps_any _ _ _ s0.data.toList _ (by_str_bytes _ _ _) (grownCap_ge _ _ _ _) (by omega)).mono ?_
  rw [hL.out]
  rintro e w3 ⟨B1, b1, d1, B2, b2, d2, B3, b3, d3, rfl, _, oR, oS, x3⟩
  have x23 := xs.trans x3
  have y3 := y2.trans x23
  have sG3 := sG.next x23
  clear hcv
  have e2 : b2 = (steps L).length := by rw [oR.len]; simp [runesL]
  have e3 : b3 = (steps L).length := by rw [oS.len]; simp [sizesL]
  have hcl : (steps L).length ≤ s0.size := by have := steps_len L; rw [LL.out] at this; exact this
  have hqb : q2 ≤ s0.size := by have h1 := due_le false (steps L); have h2 := HQ2.out; omega
  obtain ⟨N, hNN⟩ : ∃ N, (steps L).length = N := ⟨_, rfl⟩
  rw [hNN] at e2 e3 hcl
  have HN0 := Lib.hid hNN
  subst e3
  subst e2
  have sR := oR.sl
  have sS := oS.sl
  clear oR oS hNN oG sG
  go_wp2_with fail
  go_loopw [9, 10] (fun v i wr => ∃ (k : Nat) (A : Option Addr) (n c : Nat), k ≤ b2 ∧ n ≤ k ∧ i = .int .i64 k ∧ v = .slice A n c ∧ Own .i32 21 w3.heap.size wr A n c (dueL false ((steps L).take k)) ∧ Nx w3 wr) (fun _ i _ => b2 - (RowKit.intOf i).toNat)
  case atStart =>
    refine ⟨0, _, 0, 0, Nat.zero_le _, Nat.le_refl _, rfl, rfl, ?_, (Nx.refl _).alloc _⟩
    exact Own.new .i32 _ w3.heap.size w3 (Nat.le_refl _) [] _ 0 rfl rfl (by simp [maxLen])
  case round =>
    obtain ⟨k, A, n, c, hk, hn, rfl, rfl, ho, hnx⟩ := hrel
    by_cases hlt : k < b2
    · obtain ⟨gr, fr, rfl, hgr, cr'⟩ := sR.open_ (by omega)
      obtain ⟨gs, fs, rfl, hgs, cs'⟩ := sS.open_ (by omega)
      have CR : Hid (∀ W, Nx w3 W → ∀ j, j < b2 → W.cell? ⟨gr, fr + j, none⟩ = some (.int .i32 ((runesL L).getD j 0))) := fun W h j hj => (h.cell (p := ⟨gr, fr + j, none⟩) hgr).trans (cr' j hj)
      have CS : Hid (∀ W, Nx w3 W → ∀ j, j < b2 → W.cell? ⟨gs, fs + j, none⟩ = some (.int .i64 ((sizesL L).getD j 0))) := fun W h j hj => (h.cell (p := ⟨gs, fs + j, none⟩) hgs).trans (cs' j hj)
      clear cr' cs' sR sS
      have hks : k < (steps L).length := by rw [HN0.out]; exact hlt
      obtain ⟨D1, D2, hD⟩ : ∃ D1 D2, Hid ((steps L)[k]'hks = (D1, D2)) := ⟨_, _, rfl⟩
      have cr0 := CR.out wr hnx k hlt
      have cs0 := CS.out wr hnx k hlt
      rw [runesL_getD L k hks, hD.out] at cr0
      rw [sizesL_getD L k hks, hD.out] at cs0
      simp only at cr0 cs0
      have TK : Hid ((steps L).take (k + 1) = (steps L).take k ++ [(D1, D2)]) := by show _ = _; rw [List.take_succ_eq_append_getElem hks, hD.out]
      have k1 : (k : Int) < (b2 : Int) := by omega
      by_cases hw : D1 = 65533 ∧ D2 = 1
      · obtain ⟨w1', w2'⟩ := hw
        have z1 : ((D1 : Int) == 65533) = true := by simp; omega
        have z2 : ((D2 : Int) == 1) = true := by simp; omega
        have HW : Hid (wrongB (D1, D2) = true) := by show _ = _; unfold wrongB; simp [w1', w2']
        clear w1' w2'
        by_cases hk0 : k = 0
        · have zk : ((k : Int) == 0) = true := by simp; omega
          have HL0 : Hid (lastW false ((steps L).take k) = false) := by show _ = _; rw [hk0]; rfl
          have HN : Hid (dueL false ((steps L).take (k + 1)) = dueL false ((steps L).take k) ++ [(D1 : Int)]) := by show _ = _; rw [TK.out, dueL_snoc, HW.out, HL0.out]; rfl
          clear hk0
          go_wp2_with (at_builtin; have _t := ho; go_must (refine wpList_append_sl _ rfl (.tmp 68) (.tmp 73) _ rfl w3.heap.size 21 j0 _ 4 Tryd.underlying25 hj0 hy0 hy1 hy2 rfl A n c _ rfl (kept_alloc ho _) _ 1 1 [(D1 : Int)] rfl (one_sl .i32 _ _ _) (by simp only [maxLen]; omega) (by omega) (hnx.alloc _).size ?_); intro B4 m4 d4 w4 r2 hg2 hat2; have hx3 := (hnx.alloc _).app (kept_alloc ho _) hg2; rw [← HN.out] at r2; have hm4 : m4 ≤ k + 1 := (by have h1 := r2.len; have h2 := due_le false ((steps L).take (k + 1)); have h3 := List.length_take_le (k + 1) (steps L); omega); clear _t hg2 hat2)
          go_roundw
          case rel => exact ⟨k + 1, B4, m4, d4, by omega, by omega, by go_num, rfl, r2, hx3⟩
          case measure => simp [RowKit.intOf]; omega
        · have zk : ((k : Int) == 0) = false := by simp; omega
          obtain ⟨j, hjk⟩ : ∃ j, k = j + 1 := ⟨k - 1, by omega⟩
          have hjs : j < (steps L).length := by omega
          obtain ⟨E1, E2, hE⟩ : ∃ D1 D2, Hid ((steps L)[j]'hjs = (D1, D2)) := ⟨_, _, rfl⟩
          have cr1 := CR.out wr hnx j (by omega)
          have cs1 := CS.out wr hnx j (by omega)
          rw [runesL_getD L j hjs, hE.out] at cr1
          rw [sizesL_getD L j hjs, hE.out] at cs1
          simp only at cr1 cs1
          have j1 : (j : Int) < (b2 : Int) := by omega
          have LW : Hid (lastW false ((steps L).take k) = wrongB (E1, E2)) := by show _ = _; rw [hjk, lastW_take _ j hjs, hE.out]
          subst hjk
          by_cases hE1 : E1 = 65533
          · have y1' : ((E1 : Int) != 65533) = false := by simp; omega
            by_cases hE2 : E2 = 1
            · have y2' : ((E2 : Int) != 1) = false := by simp; omega
              have HLW : Hid (wrongB (E1, E2) = true) := by show _ = _; unfold wrongB; simp [hE1, hE2]
              have HN : Hid (dueL false ((steps L).take (j + 1 + 1)) = dueL false ((steps L).take (j + 1))) := by show _ = _; rw [TK.out, dueL_snoc, HW.out, LW.out, HLW.out]; simp
              rw [← HN.out] at ho
              clear hE1 hE2 hk0
              go_wp2_with fail
              go_roundw
              case rel => exact ⟨j + 1 + 1, A, n, c, by omega, by omega, by go_num, rfl, ho, hnx⟩
              case measure => simp [RowKit.intOf]; omega
            · have y2' : ((E2 : Int) != 1) = true := by simp; omega
              have HLW : Hid (wrongB (E1, E2) = false) := by show _ = _; unfold wrongB; simp [hE2]
              have HN : Hid (dueL false ((steps L).take (j + 1 + 1)) = dueL false ((steps L).take (j + 1)) ++ [(D1 : Int)]) := by show _ = _; rw [TK.out, dueL_snoc, HW.out, LW.out, HLW.out]; rfl
              clear hE1 hE2 hk0
              go_wp2_with (at_builtin; have _t := ho; go_must (refine wpList_append_sl _ rfl (.tmp 68) (.tmp 73) _ rfl w3.heap.size 21 j0 _ 4 Tryd.underlying25 hj0 hy0 hy1 hy2 rfl A n c _ rfl (kept_alloc ho _) _ 1 1 [(D1 : Int)] rfl (one_sl .i32 _ _ _) (by simp only [maxLen]; omega) (by omega) (hnx.alloc _).size ?_); intro B4 m4 d4 w4 r2 hg2 hat2; have hx3 := (hnx.alloc _).app (kept_alloc ho _) hg2; rw [← HN.out] at r2; have hm4 : m4 ≤ j + 1 + 1 := (by have h1 := r2.len; have h2 := due_le false ((steps L).take (j + 1 + 1)); have h3 := List.length_take_le (j + 1 + 1) (steps L); omega); clear _t hg2 hat2)
              go_roundw
              case rel => exact ⟨j + 1 + 1, B4, m4, d4, by omega, by omega, by go_num, rfl, r2, hx3⟩
              case measure => simp [RowKit.intOf]; omega
          · have y1' : ((E1 : Int) != 65533) = true := by simp; omega
            have HLW : Hid (wrongB (E1, E2) = false) := by show _ = _; unfold wrongB; simp [hE1]
            have HN : Hid (dueL false ((steps L).take (j + 1 + 1)) = dueL false ((steps L).take (j + 1)) ++ [(D1 : Int)]) := by show _ = _; rw [TK.out, dueL_snoc, HW.out, LW.out, HLW.out]; rfl
            clear hE1 hk0
            go_wp2_with (at_builtin; have _t := ho; go_must (refine wpList_append_sl _ rfl (.tmp 68) (.tmp 73) _ rfl w3.heap.size 21 j0 _ 4 Tryd.underlying25 hj0 hy0 hy1 hy2 rfl A n c _ rfl (kept_alloc ho _) _ 1 1 [(D1 : Int)] rfl (one_sl .i32 _ _ _) (by simp only [maxLen]; omega) (by omega) (hnx.alloc _).size ?_); intro B4 m4 d4 w4 r2 hg2 hat2; have hx3 := (hnx.alloc _).app (kept_alloc ho _) hg2; rw [← HN.out] at r2; have hm4 : m4 ≤ j + 1 + 1 := (by have h1 := r2.len; have h2 := due_le false ((steps L).take (j + 1 + 1)); have h3 := List.length_take_le (j + 1 + 1) (steps L); omega); clear _t hg2 hat2)
            go_roundw
            case rel => exact ⟨j + 1 + 1, B4, m4, d4, by omega, by omega, by go_num, rfl, r2, hx3⟩
            case measure => simp [RowKit.intOf]; omega
      · have HW : Hid (wrongB (D1, D2) = false) := by
          show _ = _
          unfold wrongB
          cases h3 : (D1 == 65533 && D2 == 1) with
          | false => rfl
          | true => rw [Bool.and_eq_true, beq_iff_eq, beq_iff_eq] at h3; exact absurd h3 hw
        have HN : Hid (dueL false ((steps L).take (k + 1)) = dueL false ((steps L).take k) ++ [(D1 : Int)]) := by show _ = _; rw [TK.out, dueL_snoc, HW.out]; rfl
        by_cases hw1 : D1 = 65533
        · have z1 : ((D1 : Int) == 65533) = true := by simp; omega
          have z2 : ((D2 : Int) == 1) = false := by simp; omega
          clear hw hw1
          go_wp2_with (at_builtin; have _t := ho; go_must (refine wpList_append_sl _ rfl (.tmp 68) (.tmp 73) _ rfl w3.heap.size 21 j0 _ 4 Tryd.underlying25 hj0 hy0 hy1 hy2 rfl A n c _ rfl (kept_alloc ho _) _ 1 1 [(D1 : Int)] rfl (one_sl .i32 _ _ _) (by simp only [maxLen]; omega) (by omega) (hnx.alloc _).size ?_); intro B4 m4 d4 w4 r2 hg2 hat2; have hx3 := (hnx.alloc _).app (kept_alloc ho _) hg2; rw [← HN.out] at r2; have hm4 : m4 ≤ k + 1 := (by have h1 := r2.len; have h2 := due_le false ((steps L).take (k + 1)); have h3 := List.length_take_le (k + 1) (steps L); omega); clear _t hg2 hat2)
          go_roundw
          case rel => exact ⟨k + 1, B4, m4, d4, by omega, by omega, by go_num, rfl, r2, hx3⟩
          case measure => simp [RowKit.intOf]; omega
        · have z1 : ((D1 : Int) == 65533) = false := by simp; omega
          clear hw hw1
          go_wp2_with (at_builtin; have _t := ho; go_must (refine wpList_append_sl _ rfl (.tmp 68) (.tmp 73) _ rfl w3.heap.size 21 j0 _ 4 Tryd.underlying25 hj0 hy0 hy1 hy2 rfl A n c _ rfl (kept_alloc ho _) _ 1 1 [(D1 : Int)] rfl (one_sl .i32 _ _ _) (by simp only [maxLen]; omega) (by omega) (hnx.alloc _).size ?_); intro B4 m4 d4 w4 r2 hg2 hat2; have hx3 := (hnx.alloc _).app (kept_alloc ho _) hg2; rw [← HN.out] at r2; have hm4 : m4 ≤ k + 1 := (by have h1 := r2.len; have h2 := due_le false ((steps L).take (k + 1)); have h3 := List.length_take_le (k + 1) (steps L); omega); clear _t hg2 hat2)
          go_roundw
          case rel => exact ⟨k + 1, B4, m4, d4, by omega, by omega, by go_num, rfl, r2, hx3⟩
          case measure => simp [RowKit.intOf]; omega
    · have hfin : Hid (dueL false ((steps L).take k) = dueL false (steps L)) := by show _ = _; rw [List.take_of_length_le (by rw [HN0.out]; omega)]
      rw [hfin.out] at ho
      have hkb : k = b2 := by omega
      clear hfin hlt hk
      subst hkb
      go_wp2_with fail
      refine (same_runes _ _ _ _ _ _ (dueL false (steps L)) (dueL false (steps L)) _ (sG3.next hnx) ho.sl (by omega) (by omega)).mono ?_
      rw [eqB_refl]
      rintro e w5 ⟨rfl, x5⟩
      go_wp2_with fail
      go_ret
      exact ⟨rfl, (y3.trans hnx).trans x5⟩
namespace fnToValidRunes
open Go.ChangeShapes Go.WideShapes Go.ChangeAt Go.RowKit
open Go.ChangeMaps (open_string shut_string)
set_option maxRecDepth 100000 in
set_option linter.unusedVariables false in
theorem laid_met (os : Os) : laidMet Tryd.prog Rows.fnToValidRunesUptoRow.laid ((laidWorld os).forCall (fun _ _ => 0) ⟨#[], #[.string ⟨#[]⟩], []⟩).memory :=
  laidMet_of_run' 8 (by kernel_rfl) (by kernel_rfl)
theorem reads (os : Os) {H : Type} (enc : TypeId × Value → H) : ∃ places, DataW.whole enc Tryd.prog ((laidWorld os).forCall (fun _ _ => 0) ⟨#[], #[.string ⟨#[]⟩], []⟩).memory Tryd.f3.params.toList Rows.fnToValidRunesSpec.vars false (#[.string ⟨#[]⟩] : Array Value).toList 8 = some ([.lit (.string [])], [], places) :=
  ⟨[], by kernel_rfl⟩
set_option maxRecDepth 100000 in
set_option linter.unusedVariables false in
theorem lifted (os : Os) (started : os.Started) (H : Type) (enc : TypeId × Value → H) (F : Stop.Interp) :
    ReturnsInHanded {} Tryd.checked os 3 .any ((Rows.OpenSpec.upto Rows.fnToValidRunesSpec).preRow enc Tryd.prog Tryd.f3 Rows.fnToValidRunesUptoRow.domain false Rows.fnToValidRunesUptoRow.laid) (((Rows.OpenSpec.upto Rows.fnToValidRunesSpec).at F).post enc Tryd.prog Tryd.f3 false true false false) := by
  obtain ⟨places, hx⟩ := reads os enc
  refine returnsInHanded_of_row (C := Tryd.checked) (s := (Rows.OpenSpec.upto Rows.fnToValidRunesSpec)) own started (by kernel_rfl) Tryd.func3
    (witness_row_at (enc := enc) (C := Tryd.checked) false (laidWorld os) #[.string ⟨#[]⟩] rfl (by kernel_rfl) (by kernel_rfl) (by kernel_rfl)
      (OpenSpec.preRow_of_cond 8 hx (by kernel_rfl) (fun k hk => by cases hk; kernel_rfl) (by kernel_rfl) (laid_met os))) ?_
  intro W base args ds gs before hval0 hW _ hkk hsz0 hL _ _
  have hk := hkk _ rfl
  have hval : ∀ (j : Nat) t v, Tryd.f3.params[j]? = some t → args[j]? = some v → Value.okWide Tryd.prog W .any base t v := hval0
  have hW' := hW
  obtain ⟨p, q, hA0, hV, rfl, hfz, hnd⟩ := hW
  have hA : DataW.TrodAll enc Tryd.prog W 0 (fun _ => true) true Tryd.f3.params.toList args.toList ds p := hA0
  rw [Tryd.params3] at hA hval
  obtain ⟨v0, vs0, d0, ds0, p0, q0, hargs, rfl, rfl, h0, r0⟩ := trodAll_cons hA
  obtain ⟨rfl, rfl, rfl⟩ := trodAll_nil r0
  obtain rfl : args = #[v0] := by cases args; simp_all
  obtain ⟨rfl, rfl⟩ := trodVars_none hV
  have k0 := h0
  have lt0 : ∀ x ∈ p0, x.block < W.heap.size := by obtain ⟨m, hm⟩ := k0; exact DataW.trod_lt m _ _ _ hm
  obtain ⟨s0, rfl, rfl, rfl, w0⟩ := open_string Tryd.underlying9 (hval 0 9 v0 rfl rfl) h0
  have z0 : s0.size ≤ 1048576 := by have := bulk_str (H := H) s0; have hb := bulk_bound hk; simp only [Rows.uptoBulkAll, List.append_nil] at hb; omega
  clear hA0 hval0
  refine (fnToValidRunes_walk s0 W (tabs hL) z0).mono fun e W' ⟨he, bel⟩ => ?_
  subst he
  exact ⟨_, rfl, _, _, _, [], _, [], hW', trodAll_mk1 (shut_bool Tryd.underlying4 _), (trodAll_cons_mk (shut_string Tryd.underlying9 w0) trodAll_mk0), rfl, bel.out.frame _, fun h => by cases h⟩
theorem row : Rows.FnToValidRunesUptoSaid :=
  OpenClaim.holds_of_cond 3 Tryd.f3 rfl rfl rfl rfl rfl rfl rfl ⟨rfl, rfl, rfl, rfl, rfl⟩ rfl rfl rfl rfl rfl (by kernel_rfl) Tryd.func3 (by kernel_rfl)
    (of_decide_eq_true (by kernel_rfl)) (by unfold Func.isWrapper; first | (rw [if_pos (by decide +kernel)]; kernel_rfl) | (rw [if_neg (by decide +kernel)]; exact ⟨rfl, rfl⟩))
    (fun os started H enc _ F => by rw [OpenClaim.pre_eq_preRow]; exact lifted os started H enc F)
theorem plain (f : FuncId) (fn : Func) (hf : Tryd.pinned.checked.prog.funcNamed Rows.fnToValidRunesUptoRow.func = some f) (hfn : Tryd.pinned.checked.prog.funcs[f]? = some fn) :
    false = Tryd.pinned.checked.prog.looks [] ∧ ∀ (j : Nat) t, fn.params[j]? = some t → Tryd.pinned.checked.prog.wantsStandIn t = false := by
  obtain rfl : f = 3 := Option.some.inj ((show Tryd.prog.funcNamed Rows.fnToValidRunesUptoRow.func = some 3 by kernel_rfl).symm.trans hf) |>.symm
  obtain rfl : fn = Tryd.f3 := (Option.some.inj (Tryd.func3.symm.trans hfn)).symm
  refine ⟨by kernel_rfl, fun j t ht => ?_⟩
  rw [Tryd.params3] at ht
  have hm := Array.mem_of_getElem? ht
  have hor : t = 9 := by simp at hm; omega
  subst hor
  exact (show Tryd.prog.wantsStandIn 9 = false by kernel_rfl)
theorem said : Rows.FnToValidRunesUptoCardSaid :=
  Claim7.holds_tied_plain_at .later [] _ _ _ _ row (fun _ h => by cases h) (by kernel_rfl) (fun _ h => by cases h) fnToValidRunesUpto_row_tie rfl ⟨rfl, rfl⟩ (by kernel_rfl) rfl plain (by kernel_rfl)
end fnToValidRunes
end Go.Proofs.YtpijokiagkhdeaaDoor
