/- FnValidJoin: if two of p, q and both joined are valid, so is the third one, where p or q is one of the two. The condition: what is read is of bulk at most 1048576; the tables are those that the program lays. -/
import Derived.Test.YtgjdlcnmfpbbhaaDoorFrame
import Derived.Test.YtgjdlcnmfpbbhaaDoorValidU
import Derived.Test.YtgjdlcnmfpbbhaaDoorJoined
import Derived.Test.YtgjdlcnmfpbbhaaDoorPlainF
namespace Go.Proofs.YtgjdlcnmfpbbhaaDoor
open Go.RowKit Go.Lib
set_option linter.unusedVariables false
set_option maxRecDepth 100000 in
set_option maxHeartbeats 1000000 in
theorem fnValidJoin_walk (A0 : Option Addr) (n0 c0 : Nat) (l0 : List UInt8) (A1 : Option Addr) (n1 c1 : Nat) (l1 : List UInt8) (w : World) (hT : Tabs w) (e0 : By w A0 n0 l0) (g0 : n0 ≤ c0) (m0 : c0 ≤ 1048576)
    (e1 : By w A1 n1 l1) (g1 : n1 ≤ c1) (m1 : c1 ≤ 1048576) (_hu : c0 + c1 ≤ 1048576) :
    Calls Tryd.prog 12 #[.slice A0 n0 c0, .slice A1 n1 c1] w fun e w' => e = .returned (.bool true) ∧ Nx w w' := by
  have LX := Lib.hid e0.len
  have LY := Lib.hid e1.len
  obtain ⟨a, ha⟩ : ∃ K, Hid (validB l0 = K) := ⟨_, rfl⟩
  obtain ⟨b, hb⟩ : ∃ K, Hid (validB l1 = K) := ⟨_, rfl⟩
  obtain ⟨c, hc⟩ : ∃ K, Hid (validB (l0 ++ l1) = K) := ⟨_, rfl⟩
  have hj := join_valid l0 l1
  rw [ha.out, hb.out, hc.out] at hj
  obtain ⟨j1, j2, j3⟩ := hj
  have hv0 : Hid (validB [] = true) := rfl
  have J1 := Lib.hid j1
  have J2 := Lib.hid j2
  have J3 := Lib.hid j3
  clear j1 j2 j3
  go_enter Tryd.func12, Tryd.ntmps12
  go_wp2_with fail
  refine (valid_any _ _ _ l0 _ hT e0 g0 (by omega)).mono ?_
  rw [ha.out]
  rintro e w1 ⟨rfl, x1⟩
  go_wp2_with fail
  refine (valid_any _ _ _ l1 _ (hT.next x1) (e1.next x1) g1 (by omega)).mono ?_
  rw [hb.out]
  rintro e w2 ⟨rfl, x2⟩
  have y2 := x1.trans x2
  go_wp2_with fail
  refine (joined_any _ _ _ l0 _ _ _ l1 _ (e0.next y2) (e1.next y2) (by omega)).mono ?_
  rintro e w3 ⟨A3, n3, c3, rfl, o3, x3⟩
  have hn3 : n3 = n0 + n1 := by have := o3.len; rw [nums_length, List.length_append, LX.out, LY.out] at this; exact this
  subst hn3
  have y3 := y2.trans x3
  go_wp2_with fail
  refine (valid_any _ _ _ (l0 ++ l1) _ (hT.next y3) o3.sl o3.cap_.1 (by omega)).mono ?_
  rw [hc.out]
  rintro e w4 ⟨rfl, x4⟩
  have y4 := y3.trans x4
  cases a with
  | true =>
    cases b with
    | true =>
      have hcc := J1.out rfl rfl
      subst hcc
      go_wp2_with fail
      refine (valid_any _ _ _ [] _ (hT.next (y4.alloc _)) (By.empty _ _) (by omega) (by omega)).mono ?_
      rw [hv0.out]
      rintro e w5 ⟨rfl, x5⟩
      go_wp2_with fail
      go_ret
      exact ⟨rfl, (y4.alloc _).trans x5⟩
    | false =>
      cases c with
      | true => have := J2.out rfl rfl; cases this
      | false =>
        go_wp2_with fail
        refine (valid_any _ _ _ [] _ (hT.next (y4.alloc _)) (By.empty _ _) (by omega) (by omega)).mono ?_
        rw [hv0.out]
        rintro e w5 ⟨rfl, x5⟩
        go_wp2_with fail
        go_ret
        exact ⟨rfl, (y4.alloc _).trans x5⟩
  | false =>
    cases b with
    | true =>
      cases c with
      | true => have := J3.out rfl rfl; cases this
      | false =>
        go_wp2_with fail
        refine (valid_any _ _ _ [] _ (hT.next (y4.alloc _)) (By.empty _ _) (by omega) (by omega)).mono ?_
        rw [hv0.out]
        rintro e w5 ⟨rfl, x5⟩
        go_wp2_with fail
        go_ret
        exact ⟨rfl, (y4.alloc _).trans x5⟩
    | false =>
      go_wp2_with fail
      refine (valid_any _ _ _ [] _ (hT.next (y4.alloc _)) (By.empty _ _) (by omega) (by omega)).mono ?_
      rw [hv0.out]
      rintro e w5 ⟨rfl, x5⟩
      go_wp2_with fail
      go_ret
      exact ⟨rfl, (y4.alloc _).trans x5⟩
namespace fnValidJoin
open Go.ChangeShapes Go.WideShapes Go.ChangeAt Go.RowKit
open Go.ChangeMaps (open_string shut_string)
set_option maxRecDepth 100000 in
set_option linter.unusedVariables false in
theorem laid_met (os : Os) : laidMet Tryd.prog Rows.fnValidJoinUptoRow.laid ((laidWorld os).forCall (fun _ _ => 0) ⟨#[], #[.slice none 0 0, .slice none 0 0], []⟩).memory :=
  laidMet_of_run' 8 (by kernel_rfl) (by kernel_rfl)
theorem reads (os : Os) {H : Type} (enc : TypeId × Value → H) : ∃ places, DataW.whole enc Tryd.prog ((laidWorld os).forCall (fun _ _ => 0) ⟨#[], #[.slice none 0 0, .slice none 0 0], []⟩).memory Tryd.f12.params.toList Rows.fnValidJoinSpec.vars false (#[.slice none 0 0, .slice none 0 0] : Array Value).toList 8 = some ([.nil, .nil], [], places) :=
  ⟨[], by kernel_rfl⟩
set_option maxRecDepth 100000 in
set_option linter.unusedVariables false in
theorem lifted (os : Os) (started : os.Started) (H : Type) (enc : TypeId × Value → H) (F : Stop.Interp) :
    ReturnsInHanded {} Tryd.checked os 12 .any ((Rows.OpenSpec.upto Rows.fnValidJoinSpec).preRow enc Tryd.prog Tryd.f12 Rows.fnValidJoinUptoRow.domain false Rows.fnValidJoinUptoRow.laid) (((Rows.OpenSpec.upto Rows.fnValidJoinSpec).at F).post enc Tryd.prog Tryd.f12 false true false false) := by
  obtain ⟨places, hx⟩ := reads os enc
  refine returnsInHanded_of_row (C := Tryd.checked) (s := (Rows.OpenSpec.upto Rows.fnValidJoinSpec)) own started (by kernel_rfl) Tryd.func12
    (witness_row_at (enc := enc) (C := Tryd.checked) false (laidWorld os) #[.slice none 0 0, .slice none 0 0] rfl (by kernel_rfl) (by kernel_rfl) (by kernel_rfl)
      (OpenSpec.preRow_of_cond 8 hx (by kernel_rfl) (fun k hk => by cases hk; kernel_rfl) (by kernel_rfl) (laid_met os))) ?_
  intro W base args ds gs before hval0 hW _ hkk hsz0 hL _ _
  have hk := hkk _ rfl
  have hval : ∀ (j : Nat) t v, Tryd.f12.params[j]? = some t → args[j]? = some v → Value.okWide Tryd.prog W .any base t v := hval0
  have hW' := hW
  obtain ⟨p, q, hA0, hV, rfl, hfz, hnd⟩ := hW
  have hA : DataW.TrodAll enc Tryd.prog W 0 (fun _ => true) true Tryd.f12.params.toList args.toList ds p := hA0
  rw [Tryd.params12] at hA hval
  obtain ⟨v0, vs0, d0, ds0, p0, q0, hargs, rfl, rfl, h0, r0⟩ := trodAll_cons hA
  obtain ⟨v1, vs1, d1, ds1, p1, q1, rfl, rfl, rfl, h1, r1⟩ := trodAll_cons r0
  obtain ⟨rfl, rfl, rfl⟩ := trodAll_nil r1
  obtain rfl : args = #[v0, v1] := by cases args; simp_all
  obtain ⟨rfl, rfl⟩ := trodVars_none hV
  have k0 := h0
  have lt0 : ∀ x ∈ p0, x.block < W.heap.size := by obtain ⟨m, hm⟩ := k0; exact DataW.trod_lt m _ _ _ hm
  obtain ⟨A0, n0, c0, l0, rfl, e0, g0, m0, u0⟩ := open_by Tryd.underlying22 Tryd.underlying5 (by kernel_rfl) (hval 0 22 v0 rfl rfl) h0
  have z0 : c0 ≤ 1048576 := by have := bulk_held u0; have hb := bulk_bound hk; simp only [Rows.uptoBulkAll, List.append_nil] at hb; omega
  have k1 := h1
  have lt1 : ∀ x ∈ p1, x.block < W.heap.size := by obtain ⟨m, hm⟩ := k1; exact DataW.trod_lt m _ _ _ hm
  obtain ⟨A1, n1, c1, l1, rfl, e1, g1, m1, u1⟩ := open_by Tryd.underlying22 Tryd.underlying5 (by kernel_rfl) (hval 1 22 v1 rfl rfl) h1
  have z1 : c1 ≤ 1048576 := by have := bulk_held u1; have hb := bulk_bound hk; simp only [Rows.uptoBulkAll, List.append_nil] at hb; omega
  have hu : c0 + c1 ≤ 1048576 := by have q0 := bulk_held u0; have q1 := bulk_held u1; have hb := bulk_bound hk; simp only [Rows.uptoBulkAll, List.append_nil] at hb; omega
  clear hA0 hval0
  refine (fnValidJoin_walk A0 n0 c0 l0 A1 n1 c1 l1 W (tabs hL) e0 g0 z0 e1 g1 z1 hu).mono fun e W' ⟨he, bel⟩ => ?_
  subst he
  exact ⟨_, rfl, _, _, _, [], _, [], hW', trodAll_mk1 (shut_bool Tryd.underlying4 _), (trodAll_cons_mk (Below.trod laidOut (by kernel_rfl) (of_decide_eq_true (by kernel_rfl)) k0 bel.out lt0) (trodAll_cons_mk (Below.trod laidOut (by kernel_rfl) (of_decide_eq_true (by kernel_rfl)) k1 bel.out lt1) trodAll_mk0)), rfl, bel.out.frame _, fun h => by cases h⟩
theorem row : Rows.FnValidJoinUptoSaid :=
  OpenClaim.holds_of_cond 12 Tryd.f12 rfl rfl rfl rfl rfl rfl rfl ⟨rfl, rfl, rfl, rfl, rfl⟩ rfl rfl rfl rfl rfl (by kernel_rfl) Tryd.func12 (by kernel_rfl)
    (of_decide_eq_true (by kernel_rfl)) (by unfold Func.isWrapper; first | (rw [if_pos (by decide +kernel)]; kernel_rfl) | (rw [if_neg (by decide +kernel)]; exact ⟨rfl, rfl⟩))
    (fun os started H enc _ F => by rw [OpenClaim.pre_eq_preRow]; exact lifted os started H enc F)
theorem plain (f : FuncId) (fn : Func) (hf : Tryd.pinned.checked.prog.funcNamed Rows.fnValidJoinUptoRow.func = some f) (hfn : Tryd.pinned.checked.prog.funcs[f]? = some fn) :
    false = Tryd.pinned.checked.prog.looks [] ∧ ∀ (j : Nat) t, fn.params[j]? = some t → Tryd.pinned.checked.prog.wantsStandIn t = false := by
  obtain rfl : f = 12 := Option.some.inj ((show Tryd.prog.funcNamed Rows.fnValidJoinUptoRow.func = some 12 by kernel_rfl).symm.trans hf) |>.symm
  obtain rfl : fn = Tryd.f12 := (Option.some.inj (Tryd.func12.symm.trans hfn)).symm
  refine ⟨by kernel_rfl, fun j t ht => ?_⟩
  rw [Tryd.params12] at ht
  have hm := Array.mem_of_getElem? ht
  have hor : t = 22 := by simp at hm; omega
  subst hor
  exact (show Tryd.prog.wantsStandIn 22 = false by kernel_rfl)
theorem said : Rows.FnValidJoinUptoCardSaid :=
  Claim7.holds_tied_plain_at .later [] _ _ _ _ row (fun _ h => by cases h) (by kernel_rfl) (fun _ h => by cases h) fnValidJoinUpto_row_tie rfl ⟨rfl, rfl⟩ (by kernel_rfl) rfl plain (by kernel_rfl)
end fnValidJoin
end Go.Proofs.YtgjdlcnmfpbbhaaDoor
