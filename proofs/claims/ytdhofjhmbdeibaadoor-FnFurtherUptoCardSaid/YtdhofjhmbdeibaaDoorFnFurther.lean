/- FnFurther: further bytes behind an encoding change nothing that is decoded in front, and further bytes before one nothing that is decoded at the end. The condition: what is read is of bulk at most 1048576; the tables are those that the program lays. -/
import Derived.Test.YtdhofjhmbdeibaaDoorFrame
import Derived.Test.YtdhofjhmbdeibaaDoorDecodeU
import Derived.Test.YtdhofjhmbdeibaaDoorDecode
import Derived.Test.YtdhofjhmbdeibaaDoorSpecLast
import Derived.Test.YtdhofjhmbdeibaaDoorJoined
import Derived.Test.YtdhofjhmbdeibaaDoorPlainE
namespace Go.Proofs.YtdhofjhmbdeibaaDoor
open Go.RowKit Go.Lib
set_option linter.unusedVariables false
set_option maxRecDepth 100000 in
set_option maxHeartbeats 2000000 in
theorem fnFurther_walk (A0 : Option Addr) (n0 c0 : Nat) (l0 : List UInt8) (A1 : Option Addr) (n1 c1 : Nat) (l1 : List UInt8) (w : World) (hT : Tabs w) (e0 : By w A0 n0 l0) (g0 : n0 ≤ c0) (m0 : c0 ≤ 1048576)
    (e1 : By w A1 n1 l1) (g1 : n1 ≤ c1) (m1 : c1 ≤ 1048576) (_hu : c0 + c1 ≤ 1048576) :
    Calls Tryd.prog 14 #[.slice A0 n0 c0, .slice A1 n1 c1] w fun e w' => e = .returned (.bool true) ∧ Nx w w' := by
  have LX := Lib.hid e0.len
  have LY := Lib.hid e1.len
  obtain ⟨R, hR⟩ : ∃ K, Hid ((dec l0).1 = K) := ⟨_, rfl⟩
  obtain ⟨K, hK⟩ : ∃ K, Hid ((dec l0).2 = K) := ⟨_, rfl⟩
  obtain ⟨Q, hQ⟩ : ∃ K, Hid ((dec (l0 ++ l1)).1 = K) := ⟨_, rfl⟩
  obtain ⟨M, hM⟩ : ∃ K, Hid ((dec (l0 ++ l1)).2 = K) := ⟨_, rfl⟩
  obtain ⟨S, hS⟩ : ∃ K, Hid ((decodeLastL l1).1 = K) := ⟨_, rfl⟩
  obtain ⟨J, hJ⟩ : ∃ K, Hid ((decodeLastL l1).2 = K) := ⟨_, rfl⟩
  obtain ⟨U, hU⟩ : ∃ K, Hid ((decodeLastL (l0 ++ l1)).1 = K) := ⟨_, rfl⟩
  obtain ⟨I, hI⟩ : ∃ K, Hid ((decodeLastL (l0 ++ l1)).2 = K) := ⟨_, rfl⟩
  have F1 : Hid (¬ (R = 65533 ∧ K ≤ 1) → Q = R ∧ M = K) := by
    intro h
    have := dec_further (p := l0) l1 (by rw [hR.out, hK.out]; exact h)
    rw [← hQ.out, ← hM.out, ← hR.out, ← hK.out, this]
    exact ⟨rfl, rfl⟩
  have F2 : Hid (¬ (S = 65533 ∧ J ≤ 1) → U = S ∧ I = J) := by
    intro h
    have := last_further l0 (q := l1) (by rw [hS.out, hJ.out]; exact h)
    rw [← hU.out, ← hI.out, ← hS.out, ← hJ.out, this]
    exact ⟨rfl, rfl⟩
  have F3 : Hid (n0 + n1 ≠ 0 → 1 ≤ M ∧ 1 ≤ I) := by
    intro h
    have hne : l0 ++ l1 ≠ [] := by
      intro hn
      have := congrArg List.length hn
      rw [List.length_append, LX.out, LY.out] at this
      exact h this
    rw [← hM.out, ← hI.out]
    exact ⟨(dec_bounds _).2.2.2.1 hne, (last_bounds _).2.2.2.1 hne⟩
  go_enter Tryd.func14, Tryd.ntmps14
  go_wp2_with fail
  refine (specDecode_any _ _ _ l0 _ e0 g0 (by omega)).mono ?_
  rw [hR.out, hK.out]
  rintro e w1 ⟨rfl, x1⟩
  go_wp2_with fail
  refine (joined_any _ _ _ l0 _ _ _ l1 _ (e0.next x1) (e1.next x1) (by omega)).mono ?_
  rintro e w2 ⟨A2, n2, c2, rfl, o2, x2⟩
  have y2 := x1.trans x2
  go_wp2_with fail
  refine (decode_any _ _ _ (l0 ++ l1) _ (hT.next y2) o2.sl).mono ?_
  rw [hQ.out, hM.out]
  rintro e w3 ⟨rfl, x3⟩
  have y3 := y2.trans x3
  by_cases h3 : R = 65533 ∧ K ≤ 1
  · obtain ⟨h3, h4⟩ := h3
    have q3 : ((R : Int) != 65533) = false := by simp; omega
    have q4 : decide ((1 : Int) < (K : Int)) = false := by simp; omega
    clear h3
    go_wp2_with fail
    refine (specLast_any _ _ _ l1 _ (e1.next y3) g1 (by omega)).mono ?_
    rw [hS.out, hJ.out]
    rintro e w4 ⟨rfl, x4⟩
    have y4 := y3.trans x4
    go_wp2_with fail
    refine (joined_any _ _ _ l0 _ _ _ l1 _ (e0.next y4) (e1.next y4) (by omega)).mono ?_
    rintro e w5 ⟨A5, n5, c5, rfl, o5, x5⟩
    have hn5 : n5 = n0 + n1 := by have := o5.len; rw [nums_length, List.length_append, LX.out, LY.out] at this; exact this
    subst hn5
    have y5 := y4.trans x5
    go_wp2_with fail
    refine (last_any _ _ _ (l0 ++ l1) _ (hT.next y5) o5.sl o5.cap_.1 (by omega)).mono ?_
    rw [hU.out, hI.out]
    rintro e w6 ⟨rfl, x6⟩
    have y6 := y5.trans x6
    by_cases h5 : S = 65533 ∧ J ≤ 1
    · obtain ⟨h5, h6⟩ := h5
      have q5 : ((S : Int) == 65533) = true := by simp; omega
      clear h5
      by_cases h0 : n0 + n1 = 0
      · have z : decide ((0 : Int) < (n0 : Int) + (n1 : Int)) = false := by simp; omega
        clear h0
        go_wp2_with fail
        go_ret
        exact ⟨rfl, y6⟩
      · have z : (0 : Int) < (n0 : Int) + (n1 : Int) := by omega
        obtain ⟨mp, ip⟩ := F3.out h0
        clear h0
        go_wp2_with fail
        go_ret
        exact ⟨rfl, y6⟩
    · obtain ⟨hu, hi⟩ := F2.out h5
      have q7 : ((U : Int) == (S : Int)) = true := by simp; omega
      have q8 : ((I : Int) == (J : Int)) = true := by simp; omega
      by_cases h7 : S = 65533
      · have q5 : ((S : Int) == 65533) = true := by simp; omega
        have q6 : decide ((J : Int) ≤ 1) = false := by simp; omega
        clear h5 h7 hu hi
        by_cases h0 : n0 + n1 = 0
        · have z : decide ((0 : Int) < (n0 : Int) + (n1 : Int)) = false := by simp; omega
          clear h0
          go_wp2_with fail
          go_ret
          exact ⟨rfl, y6⟩
        · have z : (0 : Int) < (n0 : Int) + (n1 : Int) := by omega
          obtain ⟨mp, ip⟩ := F3.out h0
          clear h0
          go_wp2_with fail
          go_ret
          exact ⟨rfl, y6⟩
      · have q5 : ((S : Int) == 65533) = false := by simp; omega
        clear h5 h7 hu hi
        by_cases h0 : n0 + n1 = 0
        · have z : decide ((0 : Int) < (n0 : Int) + (n1 : Int)) = false := by simp; omega
          clear h0
          go_wp2_with fail
          go_ret
          exact ⟨rfl, y6⟩
        · have z : (0 : Int) < (n0 : Int) + (n1 : Int) := by omega
          obtain ⟨mp, ip⟩ := F3.out h0
          clear h0
          go_wp2_with fail
          go_ret
          exact ⟨rfl, y6⟩
  · obtain ⟨hq, hm⟩ := F1.out h3
    have q1 : ((Q : Int) != (R : Int)) = false := by simp; omega
    have q2 : ((M : Int) != (K : Int)) = false := by simp; omega
    by_cases h4 : R = 65533
    · have q3 : ((R : Int) != 65533) = false := by simp; omega
      have q4 : (1 : Int) < (K : Int) := by omega
      clear h3 h4 hq hm
      go_wp2_with fail
      refine (specLast_any _ _ _ l1 _ (e1.next y3) g1 (by omega)).mono ?_
      rw [hS.out, hJ.out]
      rintro e w4 ⟨rfl, x4⟩
      have y4 := y3.trans x4
      go_wp2_with fail
      refine (joined_any _ _ _ l0 _ _ _ l1 _ (e0.next y4) (e1.next y4) (by omega)).mono ?_
      rintro e w5 ⟨A5, n5, c5, rfl, o5, x5⟩
      have hn5 : n5 = n0 + n1 := by have := o5.len; rw [nums_length, List.length_append, LX.out, LY.out] at this; exact this
      subst hn5
      have y5 := y4.trans x5
      go_wp2_with fail
      refine (last_any _ _ _ (l0 ++ l1) _ (hT.next y5) o5.sl o5.cap_.1 (by omega)).mono ?_
      rw [hU.out, hI.out]
      rintro e w6 ⟨rfl, x6⟩
      have y6 := y5.trans x6
      by_cases h5 : S = 65533 ∧ J ≤ 1
      · obtain ⟨h5, h6⟩ := h5
        have q5 : ((S : Int) == 65533) = true := by simp; omega
        clear h5
        by_cases h0 : n0 + n1 = 0
        · have z : decide ((0 : Int) < (n0 : Int) + (n1 : Int)) = false := by simp; omega
          clear h0
          go_wp2_with fail
          go_ret
          exact ⟨rfl, y6⟩
        · have z : (0 : Int) < (n0 : Int) + (n1 : Int) := by omega
          obtain ⟨mp, ip⟩ := F3.out h0
          clear h0
          go_wp2_with fail
          go_ret
          exact ⟨rfl, y6⟩
      · obtain ⟨hu, hi⟩ := F2.out h5
        have q7 : ((U : Int) == (S : Int)) = true := by simp; omega
        have q8 : ((I : Int) == (J : Int)) = true := by simp; omega
        by_cases h7 : S = 65533
        · have q5 : ((S : Int) == 65533) = true := by simp; omega
          have q6 : decide ((J : Int) ≤ 1) = false := by simp; omega
          clear h5 h7 hu hi
          by_cases h0 : n0 + n1 = 0
          · have z : decide ((0 : Int) < (n0 : Int) + (n1 : Int)) = false := by simp; omega
            clear h0
            go_wp2_with fail
            go_ret
            exact ⟨rfl, y6⟩
          · have z : (0 : Int) < (n0 : Int) + (n1 : Int) := by omega
            obtain ⟨mp, ip⟩ := F3.out h0
            clear h0
            go_wp2_with fail
            go_ret
            exact ⟨rfl, y6⟩
        · have q5 : ((S : Int) == 65533) = false := by simp; omega
          clear h5 h7 hu hi
          by_cases h0 : n0 + n1 = 0
          · have z : decide ((0 : Int) < (n0 : Int) + (n1 : Int)) = false := by simp; omega
            clear h0
            go_wp2_with fail
            go_ret
            exact ⟨rfl, y6⟩
          · have z : (0 : Int) < (n0 : Int) + (n1 : Int) := by omega
            obtain ⟨mp, ip⟩ := F3.out h0
            clear h0
            go_wp2_with fail
            go_ret
            exact ⟨rfl, y6⟩
    · have q3 : ((R : Int) != 65533) = true := by simp; omega
      clear h3 h4 hq hm
      go_wp2_with fail
      refine (specLast_any _ _ _ l1 _ (e1.next y3) g1 (by omega)).mono ?_
      rw [hS.out, hJ.out]
      rintro e w4 ⟨rfl, x4⟩
      have y4 := y3.trans x4
      go_wp2_with fail
      refine (joined_any _ _ _ l0 _ _ _ l1 _ (e0.next y4) (e1.next y4) (by omega)).mono ?_
      rintro e w5 ⟨A5, n5, c5, rfl, o5, x5⟩
      have hn5 : n5 = n0 + n1 := by have := o5.len; rw [nums_length, List.length_append, LX.out, LY.out] at this; exact this
      subst hn5
      have y5 := y4.trans x5
      go_wp2_with fail
      refine (last_any _ _ _ (l0 ++ l1) _ (hT.next y5) o5.sl o5.cap_.1 (by omega)).mono ?_
      rw [hU.out, hI.out]
      rintro e w6 ⟨rfl, x6⟩
      have y6 := y5.trans x6
      by_cases h5 : S = 65533 ∧ J ≤ 1
      · obtain ⟨h5, h6⟩ := h5
        have q5 : ((S : Int) == 65533) = true := by simp; omega
        clear h5
        by_cases h0 : n0 + n1 = 0
        · have z : decide ((0 : Int) < (n0 : Int) + (n1 : Int)) = false := by simp; omega
          clear h0
          go_wp2_with fail
          go_ret
          exact ⟨rfl, y6⟩
        · have z : (0 : Int) < (n0 : Int) + (n1 : Int) := by omega
          obtain ⟨mp, ip⟩ := F3.out h0
          clear h0
          go_wp2_with fail
          go_ret
          exact ⟨rfl, y6⟩
      · obtain ⟨hu, hi⟩ := F2.out h5
        have q7 : ((U : Int) == (S : Int)) = true := by simp; omega
        have q8 : ((I : Int) == (J : Int)) = true := by simp; omega
        by_cases h7 : S = 65533
        · have q5 : ((S : Int) == 65533) = true := by simp; omega
          have q6 : decide ((J : Int) ≤ 1) = false := by simp; omega
          clear h5 h7 hu hi
          by_cases h0 : n0 + n1 = 0
          · have z : decide ((0 : Int) < (n0 : Int) + (n1 : Int)) = false := by simp; omega
            clear h0
            go_wp2_with fail
            go_ret
            exact ⟨rfl, y6⟩
          · have z : (0 : Int) < (n0 : Int) + (n1 : Int) := by omega
            obtain ⟨mp, ip⟩ := F3.out h0
            clear h0
            go_wp2_with fail
            go_ret
            exact ⟨rfl, y6⟩
        · have q5 : ((S : Int) == 65533) = false := by simp; omega
          clear h5 h7 hu hi
          by_cases h0 : n0 + n1 = 0
          · have z : decide ((0 : Int) < (n0 : Int) + (n1 : Int)) = false := by simp; omega
            clear h0
            go_wp2_with fail
            go_ret
            exact ⟨rfl, y6⟩
          · have z : (0 : Int) < (n0 : Int) + (n1 : Int) := by omega
            obtain ⟨mp, ip⟩ := F3.out h0
            clear h0
            go_wp2_with fail
            go_ret
            exact ⟨rfl, y6⟩
namespace fnFurther
open Go.ChangeShapes Go.WideShapes Go.ChangeAt Go.RowKit
open Go.ChangeMaps (open_string shut_string)
set_option maxRecDepth 100000 in
set_option linter.unusedVariables false in
theorem laid_met (os : Os) : laidMet Tryd.prog Rows.fnFurtherUptoRow.laid ((laidWorld os).forCall (fun _ _ => 0) ⟨#[], #[.slice none 0 0, .slice none 0 0], []⟩).memory :=
  laidMet_of_run' 8 (by kernel_rfl) (by kernel_rfl)
theorem reads (os : Os) {H : Type} (enc : TypeId × Value → H) : ∃ places, DataW.whole enc Tryd.prog ((laidWorld os).forCall (fun _ _ => 0) ⟨#[], #[.slice none 0 0, .slice none 0 0], []⟩).memory Tryd.f14.params.toList Rows.fnFurtherSpec.vars false (#[.slice none 0 0, .slice none 0 0] : Array Value).toList 8 = some ([.nil, .nil], [], places) :=
  ⟨[], by kernel_rfl⟩
set_option maxRecDepth 100000 in
set_option linter.unusedVariables false in
theorem lifted (os : Os) (started : os.Started) (H : Type) (enc : TypeId × Value → H) (F : Stop.Interp) :
    ReturnsInHanded {} Tryd.checked os 14 .any ((Rows.OpenSpec.upto Rows.fnFurtherSpec).preRow enc Tryd.prog Tryd.f14 Rows.fnFurtherUptoRow.domain false Rows.fnFurtherUptoRow.laid) (((Rows.OpenSpec.upto Rows.fnFurtherSpec).at F).post enc Tryd.prog Tryd.f14 false true false false) := by
  obtain ⟨places, hx⟩ := reads os enc
  refine returnsInHanded_of_row (C := Tryd.checked) (s := (Rows.OpenSpec.upto Rows.fnFurtherSpec)) own started (by kernel_rfl) Tryd.func14
    (witness_row_at (enc := enc) (C := Tryd.checked) false (laidWorld os) #[.slice none 0 0, .slice none 0 0] rfl (by kernel_rfl) (by kernel_rfl) (by kernel_rfl)
      (OpenSpec.preRow_of_cond 8 hx (by kernel_rfl) (fun k hk => by cases hk; kernel_rfl) (by kernel_rfl) (laid_met os))) ?_
  intro W base args ds gs before hval0 hW _ hkk hsz0 hL _ _
  have hk := hkk _ rfl
  have hval : ∀ (j : Nat) t v, Tryd.f14.params[j]? = some t → args[j]? = some v → Value.okWide Tryd.prog W .any base t v := hval0
  have hW' := hW
  obtain ⟨p, q, hA0, hV, rfl, hfz, hnd⟩ := hW
  have hA : DataW.TrodAll enc Tryd.prog W 0 (fun _ => true) true Tryd.f14.params.toList args.toList ds p := hA0
  rw [Tryd.params14] at hA hval
  obtain ⟨v0, vs0, d0, ds0, p0, q0, hargs, rfl, rfl, h0, r0⟩ := trodAll_cons hA
  obtain ⟨v1, vs1, d1, ds1, p1, q1, rfl, rfl, rfl, h1, r1⟩ := trodAll_cons r0
  obtain ⟨rfl, rfl, rfl⟩ := trodAll_nil r1
  obtain rfl : args = #[v0, v1] := by cases args; simp_all
  obtain ⟨rfl, rfl⟩ := trodVars_none hV
  have k0 := h0
  have lt0 : ∀ x ∈ p0, x.block < W.heap.size := by obtain ⟨m, hm⟩ := k0; exact DataW.trod_lt m _ _ _ hm
  obtain ⟨A0, n0, c0, l0, rfl, e0, g0, m0, u0⟩ := open_by Tryd.underlying30 Tryd.underlying5 (by kernel_rfl) (hval 0 30 v0 rfl rfl) h0
  have z0 : c0 ≤ 1048576 := by have := bulk_held u0; have hb := bulk_bound hk; simp only [Rows.uptoBulkAll, List.append_nil] at hb; omega
  have k1 := h1
  have lt1 : ∀ x ∈ p1, x.block < W.heap.size := by obtain ⟨m, hm⟩ := k1; exact DataW.trod_lt m _ _ _ hm
  obtain ⟨A1, n1, c1, l1, rfl, e1, g1, m1, u1⟩ := open_by Tryd.underlying30 Tryd.underlying5 (by kernel_rfl) (hval 1 30 v1 rfl rfl) h1
  have z1 : c1 ≤ 1048576 := by have := bulk_held u1; have hb := bulk_bound hk; simp only [Rows.uptoBulkAll, List.append_nil] at hb; omega
  have hu : c0 + c1 ≤ 1048576 := by have q0 := bulk_held u0; have q1 := bulk_held u1; have hb := bulk_bound hk; simp only [Rows.uptoBulkAll, List.append_nil] at hb; omega
  clear hA0 hval0
  refine (fnFurther_walk A0 n0 c0 l0 A1 n1 c1 l1 W (tabs hL) e0 g0 z0 e1 g1 z1 hu).mono fun e W' ⟨he, bel⟩ => ?_
  subst he
  exact ⟨_, rfl, _, _, _, [], _, [], hW', trodAll_mk1 (shut_bool Tryd.underlying4 _), (trodAll_cons_mk (Below.trod laidOut (by kernel_rfl) (of_decide_eq_true (by kernel_rfl)) k0 bel.out lt0) (trodAll_cons_mk (Below.trod laidOut (by kernel_rfl) (of_decide_eq_true (by kernel_rfl)) k1 bel.out lt1) trodAll_mk0)), rfl, bel.out.frame _, fun h => by cases h⟩
theorem row : Rows.FnFurtherUptoSaid :=
  OpenClaim.holds_of_cond 14 Tryd.f14 rfl rfl rfl rfl rfl rfl rfl ⟨rfl, rfl, rfl, rfl, rfl⟩ rfl rfl rfl rfl rfl (by kernel_rfl) Tryd.func14 (by kernel_rfl)
    (of_decide_eq_true (by kernel_rfl)) (by unfold Func.isWrapper; first | (rw [if_pos (by decide +kernel)]; kernel_rfl) | (rw [if_neg (by decide +kernel)]; exact ⟨rfl, rfl⟩))
    (fun os started H enc _ F => by rw [OpenClaim.pre_eq_preRow]; exact lifted os started H enc F)
theorem plain (f : FuncId) (fn : Func) (hf : Tryd.pinned.checked.prog.funcNamed Rows.fnFurtherUptoRow.func = some f) (hfn : Tryd.pinned.checked.prog.funcs[f]? = some fn) :
    false = Tryd.pinned.checked.prog.looks [] ∧ ∀ (j : Nat) t, fn.params[j]? = some t → Tryd.pinned.checked.prog.wantsStandIn t = false := by
  obtain rfl : f = 14 := Option.some.inj ((show Tryd.prog.funcNamed Rows.fnFurtherUptoRow.func = some 14 by kernel_rfl).symm.trans hf) |>.symm
  obtain rfl : fn = Tryd.f14 := (Option.some.inj (Tryd.func14.symm.trans hfn)).symm
  refine ⟨by kernel_rfl, fun j t ht => ?_⟩
  rw [Tryd.params14] at ht
  have hm := Array.mem_of_getElem? ht
  have hor : t = 30 := by simp at hm; omega
  subst hor
  exact (show Tryd.prog.wantsStandIn 30 = false by kernel_rfl)
theorem said : Rows.FnFurtherUptoCardSaid :=
  Claim7.holds_tied_plain_at .later [] _ _ _ _ row (fun _ h => by cases h) (by kernel_rfl) (fun _ h => by cases h) fnFurtherUpto_row_tie rfl ⟨rfl, rfl⟩ (by kernel_rfl) rfl plain (by kernel_rfl)
end fnFurther
end Go.Proofs.YtdhofjhmbdeibaaDoor
