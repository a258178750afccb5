/- FnToValidJoin: behind a valid string, another one is made valid by itself. The condition: what is read is of bulk at most 1048576; the tables are those that the program lays. -/
import Derived.Test.YtcgpnmlemjldaaaDoorFrame
import Derived.Test.YtcgpnmlemjldaaaDoorToValid
import Derived.Test.YtcgpnmlemjldaaaDoorSpecValid
namespace Go.Proofs.YtcgpnmlemjldaaaDoor
open Go.RowKit Go.Lib
set_option linter.unusedVariables false
theorem cat_list (a b : ByteArray) : (a ++ b).data.toList = a.data.toList ++ b.data.toList := by rw [ByteArray.data_append, Array.toList_append]
theorem cat_strOf (a : ByteArray) (l : List UInt8) : a ++ strOf l = strOf (a.data.toList ++ l) := by
  conv => lhs; rw [← strOf_list a]
  unfold strOf
  rw [ByteArray.mk_append_mk]
set_option maxRecDepth 100000 in
set_option maxHeartbeats 1000000 in
theorem fnToValidJoin_walk (s0 s1 s2 : ByteArray) (w : World) (hT : Tabs w) (m0 : s0.size ≤ 1048576) (m1 : s1.size ≤ 1048576) (m2 : s2.size ≤ 1048576) (_hu : s0.size + s1.size + s2.size ≤ 1048576) :
    Calls Tryd.prog 9 #[.string s0, .string s1, .string s2] w fun e w' => e = .returned (.bool true) ∧ Nx w w' := by
  obtain ⟨V, hV⟩ : ∃ V, Hid (validB s0.data.toList = V) := ⟨_, rfl⟩
  cases hVV : V with
  | false =>
    subst hVV
    go_enter Tryd.func9, Tryd.ntmps9
    go_wp2_with fail
    refine (specValidS_any s0 _ (by omega)).mono ?_
    rw [hV.out]
    rintro e w1 ⟨rfl, x1⟩
    go_wp2_with fail
    go_ret
    exact ⟨rfl, x1⟩
  | true =>
    subst hVV
    obtain ⟨O, hO⟩ : ∃ O, Hid (toV s2.data.toList false s1.data.toList = O) := ⟨_, rfl⟩
    have hOl : O.length ≤ 1099512676352 := by rw [← hO.out]; exact toV_small (by rw [size_list]; exact m1) (by rw [size_list]; exact m2) false
    obtain ⟨X, hX⟩ : ∃ X, Hid (strOf O = X) := ⟨_, rfl⟩
    have hXs : X.size ≤ 1099512676352 := by rw [← hX.out, strOf_size]; exact hOl
    have hj : toV s2.data.toList false (s0 ++ s1).data.toList = s0.data.toList ++ O := by rw [cat_list, toV_front _ hV.out, hO.out]
    have hjs : (s0 ++ s1).size = s0.size + s1.size := ByteArray.size_append
    have c0 := Lib.hid fun W (h : Tabs W) => toValid_any (s0 ++ s1) s2 W h (by omega) (by rw [hj, List.length_append, size_list]; omega)
    rw [hj, ← cat_strOf, hX.out] at c0
    have c1 := Lib.hid fun W (h : Tabs W) => toValid_any s1 s2 W h (by omega) (by rw [hO.out]; omega)
    rw [hO.out, hX.out] at c1
    have c2 := Lib.hid fun W (h : Tabs W) => toValid_any s0 s2 W h (by omega) (by rw [toV_valid _ hV.out, size_list]; omega)
    rw [toV_valid _ hV.out, strOf_list] at c2
    have hxx : ((s0 ++ X).toList == (s0 ++ X).toList) = true := by simp
    have h00 : (s0.toList == s0.toList) = true := by simp
    clear hj hjs
    go_enter Tryd.func9, Tryd.ntmps9
    go_wp2_with fail
    refine (specValidS_any s0 _ (by omega)).mono ?_
    rw [hV.out]
    rintro e w1 ⟨rfl, x1⟩
    go_wp2_with fail
    refine (c0.out _ (hT.next x1)).mono ?_
    rintro e w2 ⟨rfl, x2⟩
    have y2 := x1.trans x2
    go_wp2_with fail
    refine (c1.out _ (hT.next y2)).mono ?_
    rintro e w3 ⟨rfl, x3⟩
    have y3 := y2.trans x3
    go_wp2_with fail
    refine (c2.out _ (hT.next y3)).mono ?_
    rintro e w4 ⟨rfl, x4⟩
    go_wp2_with fail
    go_ret
    exact ⟨rfl, y3.trans x4⟩
namespace fnToValidJoin
open Go.ChangeShapes Go.WideShapes Go.ChangeAt Go.RowKit
open Go.ChangeMaps (open_string shut_string)
set_option maxRecDepth 100000 in
set_option linter.unusedVariables false in
theorem laid_met (os : Os) : laidMet Tryd.prog Rows.fnToValidJoinUptoRow.laid ((laidWorld os).forCall (fun _ _ => 0) ⟨#[], #[.string ⟨#[]⟩, .string ⟨#[]⟩, .string ⟨#[]⟩], []⟩).memory :=
  laidMet_of_run' 8 (by kernel_rfl) (by kernel_rfl)
theorem reads (os : Os) {H : Type} (enc : TypeId × Value → H) : ∃ places, DataW.whole enc Tryd.prog ((laidWorld os).forCall (fun _ _ => 0) ⟨#[], #[.string ⟨#[]⟩, .string ⟨#[]⟩, .string ⟨#[]⟩], []⟩).memory Tryd.f9.params.toList Rows.fnToValidJoinSpec.vars false (#[.string ⟨#[]⟩, .string ⟨#[]⟩, .string ⟨#[]⟩] : Array Value).toList 8 = some ([.lit (.string []), .lit (.string []), .lit (.string [])], [], places) :=
  ⟨[], by kernel_rfl⟩
set_option maxRecDepth 100000 in
set_option linter.unusedVariables false in
theorem lifted (os : Os) (started : os.Started) (H : Type) (enc : TypeId × Value → H) (F : Stop.Interp) :
    ReturnsInHanded {} Tryd.checked os 9 .any ((Rows.OpenSpec.upto Rows.fnToValidJoinSpec).preRow enc Tryd.prog Tryd.f9 Rows.fnToValidJoinUptoRow.domain false Rows.fnToValidJoinUptoRow.laid) (((Rows.OpenSpec.upto Rows.fnToValidJoinSpec).at F).post enc Tryd.prog Tryd.f9 false true false false) := by
  obtain ⟨places, hx⟩ := reads os enc
  refine returnsInHanded_of_row (C := Tryd.checked) (s := (Rows.OpenSpec.upto Rows.fnToValidJoinSpec)) own started (by kernel_rfl) Tryd.func9
    (witness_row_at (enc := enc) (C := Tryd.checked) false (laidWorld os) #[.string ⟨#[]⟩, .string ⟨#[]⟩, .string ⟨#[]⟩] rfl (by kernel_rfl) (by kernel_rfl) (by kernel_rfl)
      (OpenSpec.preRow_of_cond 8 hx (by kernel_rfl) (fun k hk => by cases hk; kernel_rfl) (by kernel_rfl) (laid_met os))) ?_
  intro W base args ds gs before hval0 hW _ hkk hsz0 hL _ _
  have hk := hkk _ rfl
  have hval : ∀ (j : Nat) t v, Tryd.f9.params[j]? = some t → args[j]? = some v → Value.okWide Tryd.prog W .any base t v := hval0
  have hW' := hW
  obtain ⟨p, q, hA0, hV, rfl, hfz, hnd⟩ := hW
  have hA : DataW.TrodAll enc Tryd.prog W 0 (fun _ => true) true Tryd.f9.params.toList args.toList ds p := hA0
  rw [Tryd.params9] at hA hval
  obtain ⟨v0, vs0, d0, ds0, p0, q0, hargs, rfl, rfl, h0, r0⟩ := trodAll_cons hA
  obtain ⟨v1, vs1, d1, ds1, p1, q1, rfl, rfl, rfl, h1, r1⟩ := trodAll_cons r0
  obtain ⟨v2, vs2, d2, ds2, p2, q2, rfl, rfl, rfl, h2, r2⟩ := trodAll_cons r1
  obtain ⟨rfl, rfl, rfl⟩ := trodAll_nil r2
  obtain rfl : args = #[v0, v1, v2] := by cases args; simp_all
  obtain ⟨rfl, rfl⟩ := trodVars_none hV
  have k0 := h0
  have lt0 : ∀ x ∈ p0, x.block < W.heap.size := by obtain ⟨m, hm⟩ := k0; exact DataW.trod_lt m _ _ _ hm
  obtain ⟨s0, rfl, rfl, rfl, w0⟩ := open_string Tryd.underlying9 (hval 0 9 v0 rfl rfl) h0
  have z0 : s0.size ≤ 1048576 := by have := bulk_str (H := H) s0; have hb := bulk_bound hk; simp only [Rows.uptoBulkAll, List.append_nil] at hb; omega
  have k1 := h1
  have lt1 : ∀ x ∈ p1, x.block < W.heap.size := by obtain ⟨m, hm⟩ := k1; exact DataW.trod_lt m _ _ _ hm
  obtain ⟨s1, rfl, rfl, rfl, w1⟩ := open_string Tryd.underlying9 (hval 1 9 v1 rfl rfl) h1
  have z1 : s1.size ≤ 1048576 := by have := bulk_str (H := H) s1; have hb := bulk_bound hk; simp only [Rows.uptoBulkAll, List.append_nil] at hb; omega
  have k2 := h2
  have lt2 : ∀ x ∈ p2, x.block < W.heap.size := by obtain ⟨m, hm⟩ := k2; exact DataW.trod_lt m _ _ _ hm
  obtain ⟨s2, rfl, rfl, rfl, w2⟩ := open_string Tryd.underlying9 (hval 2 9 v2 rfl rfl) h2
  have z2 : s2.size ≤ 1048576 := by have := bulk_str (H := H) s2; have hb := bulk_bound hk; simp only [Rows.uptoBulkAll, List.append_nil] at hb; omega
  have hu : s0.size + s1.size + s2.size ≤ 1048576 := by have q0 := bulk_str (H := H) s0; have q1 := bulk_str (H := H) s1; have q2 := bulk_str (H := H) s2; have hb := bulk_bound hk; simp only [Rows.uptoBulkAll, List.append_nil] at hb; omega
  clear hA0 hval0
  refine (fnToValidJoin_walk s0 s1 s2 W (tabs hL) z0 z1 z2 hu).mono fun e W' ⟨he, bel⟩ => ?_
  subst he
  exact ⟨_, rfl, _, _, _, [], _, [], hW', trodAll_mk1 (shut_bool Tryd.underlying4 _), (trodAll_cons_mk (shut_string Tryd.underlying9 w0) (trodAll_cons_mk (shut_string Tryd.underlying9 w1) (trodAll_cons_mk (shut_string Tryd.underlying9 w2) trodAll_mk0))), rfl, bel.out.frame _, fun h => by cases h⟩
theorem row : Rows.FnToValidJoinUptoSaid :=
  OpenClaim.holds_of_cond 9 Tryd.f9 rfl rfl rfl rfl rfl rfl rfl ⟨rfl, rfl, rfl, rfl, rfl⟩ rfl rfl rfl rfl rfl (by kernel_rfl) Tryd.func9 (by kernel_rfl)
    (of_decide_eq_true (by kernel_rfl)) (by unfold Func.isWrapper; first | (rw [if_pos (by decide +kernel)]; kernel_rfl) | (rw [if_neg (by decide +kernel)]; exact ⟨rfl, rfl⟩))
    (fun os started H enc _ F => by rw [OpenClaim.pre_eq_preRow]; exact lifted os started H enc F)
theorem plain (f : FuncId) (fn : Func) (hf : Tryd.pinned.checked.prog.funcNamed Rows.fnToValidJoinUptoRow.func = some f) (hfn : Tryd.pinned.checked.prog.funcs[f]? = some fn) :
    false = Tryd.pinned.checked.prog.looks [] ∧ ∀ (j : Nat) t, fn.params[j]? = some t → Tryd.pinned.checked.prog.wantsStandIn t = false := by
  obtain rfl : f = 9 := Option.some.inj ((show Tryd.prog.funcNamed Rows.fnToValidJoinUptoRow.func = some 9 by kernel_rfl).symm.trans hf) |>.symm
  obtain rfl : fn = Tryd.f9 := (Option.some.inj (Tryd.func9.symm.trans hfn)).symm
  refine ⟨by kernel_rfl, fun j t ht => ?_⟩
  rw [Tryd.params9] at ht
  have hm := Array.mem_of_getElem? ht
  have hor : t = 9 := by simp at hm; omega
  subst hor
  exact (show Tryd.prog.wantsStandIn 9 = false by kernel_rfl)
theorem said : Rows.FnToValidJoinUptoCardSaid :=
  Claim7.holds_tied_plain_at .later [] _ _ _ _ row (fun _ h => by cases h) (by kernel_rfl) (fun _ h => by cases h) fnToValidJoinUpto_row_tie rfl ⟨rfl, rfl⟩ (by kernel_rfl) rfl plain (by kernel_rfl)
end fnToValidJoin
end Go.Proofs.YtcgpnmlemjldaaaDoor
