/- FnSteps: decoding one encoding after the other goes through all bytes, in as many steps as RuneCount tells, and meets RuneError with one byte just if the bytes are not valid. The tables are those that the program lays. -/
import Derived.Test.YtcgpnmlemjldaaaDoorFrame
import Derived.Test.YtcgpnmlemjldaaaDoorDecodeU
import Derived.Test.YtcgpnmlemjldaaaDoorValidU
import Derived.Test.YtcgpnmlemjldaaaDoorCount
import Derived.Test.YtcgpnmlemjldaaaDoorPlainE
namespace Go.Proofs.YtcgpnmlemjldaaaDoor
open Go.RowKit Go.Lib
set_option linter.unusedVariables false
def okB (ps : List (Nat × Nat)) : Bool := ps.all fun p => !wrongB p
theorem okB_snoc (ps : List (Nat × Nat)) (R K : Nat) : okB (ps ++ [(R, K)]) = (okB ps && !(R == 65533 && K == 1)) := by simp [okB, wrongB]
set_option maxRecDepth 100000 in
set_option maxHeartbeats 2000000 in
theorem fnSteps_walk (A0 : Option Addr) (n0 c0 : Nat) (l0 : List UInt8) (w : World) (hT : Tabs w) (e0 : By w A0 n0 l0) (g0 : n0 ≤ c0) (m0 : c0 ≤ 140737488351232) :
    Calls Tryd.prog 7 #[.slice A0 n0 c0] w fun e w' => e = .returned (.bool true) ∧ Nx w w' := by
  have LX := Lib.hid e0.len
  go_enter Tryd.func7, Tryd.ntmps7
  go_wp2
  go_loopw [3, 4, 5] (fun a c g wr => ∃ (i j : Nat) (b : Bool), i ≤ n0 ∧ j ≤ i ∧ a = .int .i64 i ∧ c = .int .i64 j ∧ g = .bool b ∧ Hid (∃ ps, Come l0 i ps ∧ ps.length = j ∧ okB ps = b) ∧ Nx w wr) (fun a _ _ _ => n0 - (RowKit.intOf a).toNat)
  case atStart => exact ⟨0, 0, true, Nat.zero_le _, Nat.le_refl _, rfl, rfl, rfl, ⟨[], Come.start _, rfl, rfl⟩, Nx.refl _⟩
  case round =>
    obtain ⟨i, j, b, hi, hj, rfl, rfl, rfl, hco, y⟩ := hrel
    obtain ⟨ps, hcome, hpl', hok'⟩ := hco.out
    have hpl := Lib.hid hpl'
    have hok := Lib.hid hok'
    clear hco hpl' hok'
    by_cases hlt : i < n0
    · obtain ⟨hcome', hd1, hd2⟩ := hcome.step (by rw [LX.out]; exact hlt)
      rw [LX.out] at hd2
      obtain ⟨R, K, hD⟩ : ∃ R K, Hid (dec (l0.drop i) = (R, K)) := ⟨_, _, rfl⟩
      rw [hD.out] at hcome' hd1 hd2
      simp only at hcome' hd1 hd2
      have HC2 := Lib.hid hcome'
      clear hcome hcome'
      have hcut := fun W => run_cut (P := Tryd.prog) 22 5 Tryd.underlying22 (fun _ => by kernel_rfl) A0 n0 c0 .i64 (i : Int) i rfl hi W
      have cd := Lib.hid fun W (h : Nx w W) => decode_any (cutA A0 c0 i) (n0 - i) (c0 - i) (l0.drop i) W (hT.next h) ((e0.next h).from_ hi g0)
      rw [hD.out] at cd
      simp only at cd
      cases b with
      | false =>
        go_wp2_with fail
        refine (cd.out _ y).mono ?_
        rintro e w1 ⟨rfl, x1⟩
        go_wp2_with fail
        go_roundw
        case rel => exact ⟨i + K, j + 1, false, by omega, by omega, by go_num, by go_num, rfl, ⟨_, HC2.out, by rw [List.length_append, hpl.out]; rfl, by rw [okB_snoc, hok.out]; rfl⟩, y.trans x1⟩
        case measure => simp [RowKit.intOf]; omega
      | true =>
        by_cases h1 : R = 65533
        · have q1 : ((R : Int) != 65533) = false := by simp; omega
          by_cases h2 : K = 1
          · have q2 : ((K : Int) != 1) = false := by simp; omega
            have HW : Hid ((R == 65533 && K == 1) = true) := by show _ = _; simp [h1, h2]
            clear h1 h2
            go_wp2_with fail
            refine (cd.out _ y).mono ?_
            rintro e w1 ⟨rfl, x1⟩
            go_wp2_with fail
            go_roundw
            case rel => exact ⟨i + K, j + 1, false, by omega, by omega, by go_num, by go_num, rfl, ⟨_, HC2.out, by rw [List.length_append, hpl.out]; rfl, by rw [okB_snoc, hok.out]; (rw [HW.out]; rfl)⟩, y.trans x1⟩
            case measure => simp [RowKit.intOf]; omega
          · have q2 : ((K : Int) != 1) = true := by simp; omega
            have HW : Hid ((R == 65533 && K == 1) = false) := by show _ = _; simp [h2]
            clear h1 h2
            go_wp2_with fail
            refine (cd.out _ y).mono ?_
            rintro e w1 ⟨rfl, x1⟩
            go_wp2_with fail
            go_roundw
            case rel => exact ⟨i + K, j + 1, true, by omega, by omega, by go_num, by go_num, rfl, ⟨_, HC2.out, by rw [List.length_append, hpl.out]; rfl, by rw [okB_snoc, hok.out]; (rw [HW.out]; rfl)⟩, y.trans x1⟩
            case measure => simp [RowKit.intOf]; omega
        · have q1 : ((R : Int) != 65533) = true := by simp; omega
          have HW : Hid ((R == 65533 && K == 1) = false) := by show _ = _; simp [h1]
          clear h1
          go_wp2_with fail
          refine (cd.out _ y).mono ?_
          rintro e w1 ⟨rfl, x1⟩
          go_wp2_with fail
          go_roundw
          case rel => exact ⟨i + K, j + 1, true, by omega, by omega, by go_num, by go_num, rfl, ⟨_, HC2.out, by rw [List.length_append, hpl.out]; rfl, by rw [okB_snoc, hok.out]; (rw [HW.out]; rfl)⟩, y.trans x1⟩
          case measure => simp [RowKit.intOf]; omega
    · have hst := hcome.done (by rw [LX.out]; omega)
      have HC : Hid (cnt l0 = j) := by show _ = _; unfold cnt; rw [hst]; exact hpl.out
      have HV : Hid (validB l0 = b) := by show _ = _; unfold validB; rw [hst]; exact hok.out
      clear hcome hst
      have zj : ((j : Int) == (j : Int)) = true := by simp
      go_wp2_with fail
      refine (count_any _ _ _ l0 _ (e0.next y) g0 (by omega)).mono ?_
      rw [HC.out]
      rintro e w1 ⟨rfl, x1⟩
      have y1 := y.trans x1
      go_wp2_with fail
      refine (valid_any _ _ _ l0 _ (hT.next y1) (e0.next y1) g0 (by omega)).mono ?_
      rw [HV.out]
      rintro e w2 ⟨rfl, x2⟩
      have zb : (b == b) = true := by simp
      go_wp2_with fail
      go_ret
      exact ⟨rfl, y1.trans x2⟩
namespace fnSteps
open Go.ChangeShapes Go.WideShapes Go.ChangeAt Go.RowKit
open Go.ChangeMaps (open_string shut_string)
set_option maxRecDepth 100000 in
set_option linter.unusedVariables false in
theorem laid_met (os : Os) : laidMet Tryd.prog Rows.fnStepsRow.laid ((laidWorld os).forCall (fun _ _ => 0) ⟨#[], #[.slice none 0 0], []⟩).memory :=
  laidMet_of_run' 8 (by kernel_rfl) (by kernel_rfl)
theorem reads (os : Os) {H : Type} (enc : TypeId × Value → H) : ∃ places, DataW.whole enc Tryd.prog ((laidWorld os).forCall (fun _ _ => 0) ⟨#[], #[.slice none 0 0], []⟩).memory Tryd.f7.params.toList Rows.fnStepsSpec.vars false (#[.slice none 0 0] : Array Value).toList 8 = some ([.nil], [], places) :=
  ⟨[], by kernel_rfl⟩
set_option maxRecDepth 100000 in
set_option linter.unusedVariables false in
theorem lifted (os : Os) (started : os.Started) (H : Type) (enc : TypeId × Value → H) (F : Stop.Interp) :
    ReturnsInHanded {} Tryd.checked os 7 .any ((OpenSpec.ofChange Rows.fnStepsSpec).preRow enc Tryd.prog Tryd.f7 Rows.fnStepsRow.domain false Rows.fnStepsRow.laid) (((OpenSpec.ofChange Rows.fnStepsSpec).at F).post enc Tryd.prog Tryd.f7 false true false false) := by
  obtain ⟨places, hx⟩ := reads os enc
  refine returnsInHanded_of_row (C := Tryd.checked) (s := (OpenSpec.ofChange Rows.fnStepsSpec)) own started (by kernel_rfl) Tryd.func7
    (witness_row_at (enc := enc) (C := Tryd.checked) false (laidWorld os) #[.slice none 0 0] rfl (by kernel_rfl) (by kernel_rfl) (by kernel_rfl)
      (OpenSpec.preRow_of_cond 8 hx (by kernel_rfl) (fun k hk => by cases hk) (by kernel_rfl) (laid_met os))) ?_
  intro W base args ds gs before hval0 hW _ hkk hsz0 hL _ _
  have hsz : (DataW.weightsEach Tryd.prog (Tryd.f7.params.toList ++ (OpenSpec.ofChange Rows.fnStepsSpec).bare.plain.varTypes Tryd.prog) (ds ++ gs)).all (· ≤ reachBytes) = true := hsz0
  rw [Tryd.params7] at hsz
  have hval : ∀ (j : Nat) t v, Tryd.f7.params[j]? = some t → args[j]? = some v → Value.okWide Tryd.prog W .any base t v := hval0
  have hW' := hW
  obtain ⟨p, q, hA0, hV, rfl, hfz, hnd⟩ := hW
  have hA : DataW.TrodAll enc Tryd.prog W 0 (fun _ => true) true Tryd.f7.params.toList args.toList ds p := hA0
  rw [Tryd.params7] at hA hval
  obtain ⟨v0, vs0, d0, ds0, p0, q0, hargs, rfl, rfl, h0, r0⟩ := trodAll_cons hA
  obtain ⟨rfl, rfl, rfl⟩ := trodAll_nil r0
  obtain rfl : args = #[v0] := by cases args; simp_all
  obtain ⟨rfl, rfl⟩ := trodVars_none hV
  have k0 := h0
  have lt0 : ∀ x ∈ p0, x.block < W.heap.size := by obtain ⟨m, hm⟩ := k0; exact DataW.trod_lt m _ _ _ hm
  obtain ⟨A0, n0, c0, l0, rfl, e0, g0, m0, u0⟩ := open_by Tryd.underlying22 Tryd.underlying5 (by kernel_rfl) (hval 0 22 v0 rfl rfl) h0
  have z0 : c0 ≤ 140737488351232 := by have := held_size (j := 0) (t := 22) (b := 1) hsz (by kernel_rfl) (by rfl) rfl Tryd.underlying22 u0; omega
  clear hA0 hval0
  refine (fnSteps_walk A0 n0 c0 l0 W (tabs hL) e0 g0 z0).mono fun e W' ⟨he, bel⟩ => ?_
  subst he
  exact ⟨_, rfl, _, _, _, [], _, [], hW', trodAll_mk1 (shut_bool Tryd.underlying4 _), (trodAll_cons_mk (Below.trod laidOut (by kernel_rfl) (of_decide_eq_true (by kernel_rfl)) k0 bel.out lt0) trodAll_mk0), rfl, bel.out.frame _, fun h => by cases h⟩
theorem row : Rows.FnStepsSaid :=
  OpenClaim.holds_of_cond 7 Tryd.f7 rfl rfl rfl rfl rfl rfl rfl ⟨rfl, rfl, rfl, rfl, rfl⟩ rfl rfl rfl rfl rfl (by kernel_rfl) Tryd.func7 (by kernel_rfl)
    (of_decide_eq_true (by kernel_rfl)) (by unfold Func.isWrapper; first | (rw [if_pos (by decide +kernel)]; kernel_rfl) | (rw [if_neg (by decide +kernel)]; exact ⟨rfl, rfl⟩))
    (fun os started H enc _ F => by rw [OpenClaim.pre_eq_preRow]; exact lifted os started H enc F)
theorem plain (f : FuncId) (fn : Func) (hf : Tryd.pinned.checked.prog.funcNamed Rows.fnStepsRow.func = some f) (hfn : Tryd.pinned.checked.prog.funcs[f]? = some fn) :
    false = Tryd.pinned.checked.prog.looks [] ∧ ∀ (j : Nat) t, fn.params[j]? = some t → Tryd.pinned.checked.prog.wantsStandIn t = false := by
  obtain rfl : f = 7 := Option.some.inj ((show Tryd.prog.funcNamed Rows.fnStepsRow.func = some 7 by kernel_rfl).symm.trans hf) |>.symm
  obtain rfl : fn = Tryd.f7 := (Option.some.inj (Tryd.func7.symm.trans hfn)).symm
  refine ⟨by kernel_rfl, fun j t ht => ?_⟩
  rw [Tryd.params7] at ht
  have hm := Array.mem_of_getElem? ht
  have hor : t = 22 := by simp at hm; omega
  subst hor
  exact (show Tryd.prog.wantsStandIn 22 = false by kernel_rfl)
theorem said : Rows.FnStepsCardSaid :=
  Claim7.holds_tied_plain_at .later [] _ _ _ _ row (fun _ h => by cases h) (by kernel_rfl) (fun _ h => by cases h) fnSteps_row_tie rfl ⟨rfl, rfl⟩ (by kernel_rfl) rfl plain (by kernel_rfl)
end fnSteps
end Go.Proofs.YtcgpnmlemjldaaaDoor
