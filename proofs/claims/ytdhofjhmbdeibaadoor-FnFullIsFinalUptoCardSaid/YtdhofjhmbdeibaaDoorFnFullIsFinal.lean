/- FnFullIsFinal: where FullRune says yes, further bytes change nothing that is decoded. The condition: what is read is of bulk at most 1048576; the tables are those that the program lays. -/
import Derived.Test.YtdhofjhmbdeibaaDoorFrame
import Derived.Test.YtdhofjhmbdeibaaDoorFullI
import Derived.Test.YtdhofjhmbdeibaaDoorDecodeU
import Derived.Test.YtdhofjhmbdeibaaDoorBegins
import Derived.Test.YtdhofjhmbdeibaaDoorJoined
import Derived.Test.YtdhofjhmbdeibaaDoorPlainE
namespace Go.Proofs.YtdhofjhmbdeibaaDoor
open Go.RowKit Go.Lib
set_option linter.unusedVariables false
set_option maxRecDepth 100000 in
set_option maxHeartbeats 2000000 in
theorem fnFullIsFinal_walk (A0 : Option Addr) (n0 c0 : Nat) (l0 : List UInt8) (A1 : Option Addr) (n1 c1 : Nat) (l1 : List UInt8) (w : World) (hT : Tabs w) (e0 : By w A0 n0 l0) (g0 : n0 ≤ c0) (m0 : c0 ≤ 1048576)
    (e1 : By w A1 n1 l1) (g1 : n1 ≤ c1) (m1 : c1 ≤ 1048576) (_hu : c0 + c1 ≤ 1048576) :
    Calls Tryd.prog 5 #[.slice A0 n0 c0, .slice A1 n1 c1] w fun e w' => e = .returned (.bool true) ∧ Nx w w' := by
  have LX := Lib.hid e0.len
  by_cases h0 : n0 = 0
  · have z : ((n0 : Int) == 0) = true := by simp [h0]
    clear h0
    go_enter Tryd.func5, Tryd.ntmps5
    go_wp2_with fail
    go_ret
    exact ⟨rfl, Nx.refl _⟩
  · have z : ((n0 : Int) == 0) = false := by simp [h0]
    have hne : l0 ≠ [] := by
      intro hn
      have := LX.out
      rw [hn] at this
      simp at this
      omega
    cases hB : begB l0 with
    | true =>
      have HB := Lib.hid hB
      clear h0 hB hne
      go_enter Tryd.func5, Tryd.ntmps5
      go_wp2_with fail
      refine (begins_any _ _ _ l0 _ e0 (by omega)).mono ?_
      rw [HB.out]
      rintro e w1 ⟨rfl, x1⟩
      go_wp2_with fail
      go_ret
      exact ⟨rfl, x1⟩
    | false =>
      have hf : Hid (fullB l0 = true) := by show _ = _; rw [full_eq l0 hne, hB]; rfl
      obtain ⟨R, hR⟩ : ∃ K, Hid ((dec l0).1 = K) := ⟨_, rfl⟩
      obtain ⟨K, hK⟩ : ∃ K, Hid ((dec l0).2 = K) := ⟨_, rfl⟩
      have hd : Hid (dec (l0 ++ l1) = dec l0) := by show _ = _; rw [dec_of hne, dec_of (by simp [hne]), dec_final hne hB]
      have k1 := (dec_bounds l0).2.2.2.1 hne
      rw [hK.out] at k1
      have kp : 0 < K := k1
      have r1 : ((R : Int) == (R : Int)) = true := by simp
      have r2 : ((K : Int) == (K : Int)) = true := by simp
      have HB := Lib.hid hB
      clear h0 hB hne
      go_enter Tryd.func5, Tryd.ntmps5
      go_wp2_with fail
      refine (begins_any _ _ _ l0 _ e0 (by omega)).mono ?_
      rw [HB.out]
      rintro e w1 ⟨rfl, x1⟩
      go_wp2_with fail
      refine (decode_any _ _ _ l0 _ (hT.next x1) (e0.next x1)).mono ?_
      rw [hR.out, hK.out]
      rintro e w2 ⟨rfl, x2⟩
      have y2 := x1.trans x2
      go_wp2_with fail
      refine (joined_any _ _ _ l0 _ _ _ l1 _ (e0.next y2) (e1.next y2) (by omega)).mono ?_
      rintro e w3 ⟨A3, n3, c3, rfl, o3, x3⟩
      have y3 := y2.trans x3
      go_wp2_with fail
      refine (decode_any _ _ _ (l0 ++ l1) _ (hT.next y3) o3.sl).mono ?_
      rw [hd.out, hR.out, hK.out]
      rintro e w4 ⟨rfl, x4⟩
      have y4 := y3.trans x4
      go_wp2_with fail
      refine (fullR_any _ _ _ l0 _ (hT.next y4) (e0.next y4) (by omega)).mono ?_
      rw [hf.out]
      rintro e w5 ⟨rfl, x5⟩
      go_wp2_with fail
      go_ret
      exact ⟨rfl, y4.trans x5⟩
namespace fnFullIsFinal
open Go.ChangeShapes Go.WideShapes Go.ChangeAt Go.RowKit
open Go.ChangeMaps (open_string shut_string)
set_option maxRecDepth 100000 in
set_option linter.unusedVariables false in
theorem laid_met (os : Os) : laidMet Tryd.prog Rows.fnFullIsFinalUptoRow.laid ((laidWorld os).forCall (fun _ _ => 0) ⟨#[], #[.slice none 0 0, .slice none 0 0], []⟩).memory :=
  laidMet_of_run' 8 (by kernel_rfl) (by kernel_rfl)
theorem reads (os : Os) {H : Type} (enc : TypeId × Value → H) : ∃ places, DataW.whole enc Tryd.prog ((laidWorld os).forCall (fun _ _ => 0) ⟨#[], #[.slice none 0 0, .slice none 0 0], []⟩).memory Tryd.f5.params.toList Rows.fnFullIsFinalSpec.vars false (#[.slice none 0 0, .slice none 0 0] : Array Value).toList 8 = some ([.nil, .nil], [], places) :=
  ⟨[], by kernel_rfl⟩
set_option maxRecDepth 100000 in
set_option linter.unusedVariables false in
theorem lifted (os : Os) (started : os.Started) (H : Type) (enc : TypeId × Value → H) (F : Stop.Interp) :
    ReturnsInHanded {} Tryd.checked os 5 .any ((Rows.OpenSpec.upto Rows.fnFullIsFinalSpec).preRow enc Tryd.prog Tryd.f5 Rows.fnFullIsFinalUptoRow.domain false Rows.fnFullIsFinalUptoRow.laid) (((Rows.OpenSpec.upto Rows.fnFullIsFinalSpec).at F).post enc Tryd.prog Tryd.f5 false true false false) := by
  obtain ⟨places, hx⟩ := reads os enc
  refine returnsInHanded_of_row (C := Tryd.checked) (s := (Rows.OpenSpec.upto Rows.fnFullIsFinalSpec)) own started (by kernel_rfl) Tryd.func5
    (witness_row_at (enc := enc) (C := Tryd.checked) false (laidWorld os) #[.slice none 0 0, .slice none 0 0] rfl (by kernel_rfl) (by kernel_rfl) (by kernel_rfl)
      (OpenSpec.preRow_of_cond 8 hx (by kernel_rfl) (fun k hk => by cases hk; kernel_rfl) (by kernel_rfl) (laid_met os))) ?_
  intro W base args ds gs before hval0 hW _ hkk hsz0 hL _ _
  have hk := hkk _ rfl
  have hval : ∀ (j : Nat) t v, Tryd.f5.params[j]? = some t → args[j]? = some v → Value.okWide Tryd.prog W .any base t v := hval0
  have hW' := hW
  obtain ⟨p, q, hA0, hV, rfl, hfz, hnd⟩ := hW
  have hA : DataW.TrodAll enc Tryd.prog W 0 (fun _ => true) true Tryd.f5.params.toList args.toList ds p := hA0
  rw [Tryd.params5] at hA hval
  obtain ⟨v0, vs0, d0, ds0, p0, q0, hargs, rfl, rfl, h0, r0⟩ := trodAll_cons hA
  obtain ⟨v1, vs1, d1, ds1, p1, q1, rfl, rfl, rfl, h1, r1⟩ := trodAll_cons r0
  obtain ⟨rfl, rfl, rfl⟩ := trodAll_nil r1
  obtain rfl : args = #[v0, v1] := by cases args; simp_all
  obtain ⟨rfl, rfl⟩ := trodVars_none hV
  have k0 := h0
  have lt0 : ∀ x ∈ p0, x.block < W.heap.size := by obtain ⟨m, hm⟩ := k0; exact DataW.trod_lt m _ _ _ hm
  obtain ⟨A0, n0, c0, l0, rfl, e0, g0, m0, u0⟩ := open_by Tryd.underlying30 Tryd.underlying5 (by kernel_rfl) (hval 0 30 v0 rfl rfl) h0
  have z0 : c0 ≤ 1048576 := by have := bulk_held u0; have hb := bulk_bound hk; simp only [Rows.uptoBulkAll, List.append_nil] at hb; omega
  have k1 := h1
  have lt1 : ∀ x ∈ p1, x.block < W.heap.size := by obtain ⟨m, hm⟩ := k1; exact DataW.trod_lt m _ _ _ hm
  obtain ⟨A1, n1, c1, l1, rfl, e1, g1, m1, u1⟩ := open_by Tryd.underlying30 Tryd.underlying5 (by kernel_rfl) (hval 1 30 v1 rfl rfl) h1
  have z1 : c1 ≤ 1048576 := by have := bulk_held u1; have hb := bulk_bound hk; simp only [Rows.uptoBulkAll, List.append_nil] at hb; omega
  have hu : c0 + c1 ≤ 1048576 := by have q0 := bulk_held u0; have q1 := bulk_held u1; have hb := bulk_bound hk; simp only [Rows.uptoBulkAll, List.append_nil] at hb; omega
  clear hA0 hval0
  refine (fnFullIsFinal_walk A0 n0 c0 l0 A1 n1 c1 l1 W (tabs hL) e0 g0 z0 e1 g1 z1 hu).mono fun e W' ⟨he, bel⟩ => ?_
  subst he
  exact ⟨_, rfl, _, _, _, [], _, [], hW', trodAll_mk1 (shut_bool Tryd.underlying4 _), (trodAll_cons_mk (Below.trod laidOut (by kernel_rfl) (of_decide_eq_true (by kernel_rfl)) k0 bel.out lt0) (trodAll_cons_mk (Below.trod laidOut (by kernel_rfl) (of_decide_eq_true (by kernel_rfl)) k1 bel.out lt1) trodAll_mk0)), rfl, bel.out.frame _, fun h => by cases h⟩
theorem row : Rows.FnFullIsFinalUptoSaid :=
  OpenClaim.holds_of_cond 5 Tryd.f5 rfl rfl rfl rfl rfl rfl rfl ⟨rfl, rfl, rfl, rfl, rfl⟩ rfl rfl rfl rfl rfl (by kernel_rfl) Tryd.func5 (by kernel_rfl)
    (of_decide_eq_true (by kernel_rfl)) (by unfold Func.isWrapper; first | (rw [if_pos (by decide +kernel)]; kernel_rfl) | (rw [if_neg (by decide +kernel)]; exact ⟨rfl, rfl⟩))
    (fun os started H enc _ F => by rw [OpenClaim.pre_eq_preRow]; exact lifted os started H enc F)
theorem plain (f : FuncId) (fn : Func) (hf : Tryd.pinned.checked.prog.funcNamed Rows.fnFullIsFinalUptoRow.func = some f) (hfn : Tryd.pinned.checked.prog.funcs[f]? = some fn) :
    false = Tryd.pinned.checked.prog.looks [] ∧ ∀ (j : Nat) t, fn.params[j]? = some t → Tryd.pinned.checked.prog.wantsStandIn t = false := by
  obtain rfl : f = 5 := Option.some.inj ((show Tryd.prog.funcNamed Rows.fnFullIsFinalUptoRow.func = some 5 by kernel_rfl).symm.trans hf) |>.symm
  obtain rfl : fn = Tryd.f5 := (Option.some.inj (Tryd.func5.symm.trans hfn)).symm
  refine ⟨by kernel_rfl, fun j t ht => ?_⟩
  rw [Tryd.params5] at ht
  have hm := Array.mem_of_getElem? ht
  have hor : t = 30 := by simp at hm; omega
  subst hor
  exact (show Tryd.prog.wantsStandIn 30 = false by kernel_rfl)
theorem said : Rows.FnFullIsFinalUptoCardSaid :=
  Claim7.holds_tied_plain_at .later [] _ _ _ _ row (fun _ h => by cases h) (by kernel_rfl) (fun _ h => by cases h) fnFullIsFinalUpto_row_tie rfl ⟨rfl, rfl⟩ (by kernel_rfl) rfl plain (by kernel_rfl)
end fnFullIsFinal
end Go.Proofs.YtdhofjhmbdeibaaDoor
