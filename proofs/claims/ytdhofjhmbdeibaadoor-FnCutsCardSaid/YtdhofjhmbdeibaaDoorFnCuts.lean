/- FnCuts: valid bytes that are cut before one of their bytes are valid on both sides just if this byte can be a first one, and on neither side otherwise. The tables are those that the program lays. -/
import Derived.Test.YtdhofjhmbdeibaaDoorFrame
import Derived.Test.YtdhofjhmbdeibaaDoorDecodeU
import Derived.Test.YtdhofjhmbdeibaaDoorValidU
import Derived.Test.YtdhofjhmbdeibaaDoorText
import Derived.Test.YtdhofjhmbdeibaaDoorStart
import Derived.Test.YtdhofjhmbdeibaaDoorPlainF
namespace Go.Proofs.YtdhofjhmbdeibaaDoor
open Go.RowKit Go.Lib
set_option linter.unusedVariables false
set_option maxRecDepth 100000 in
set_option maxHeartbeats 2000000 in
theorem fnCuts_walk (A0 : Option Addr) (n0 c0 : Nat) (z0 : List Int) (a1 : Int) (w : World) (hT : Tabs w) (e0 : Sl .i32 w A0 n0 z0) (_b0 : ∀ z ∈ z0, -2147483648 ≤ z ∧ z ≤ 2147483647) (g0 : n0 ≤ c0) (m0 : c0 ≤ 35184372087808) (b1 : -9223372036854775808 ≤ a1 ∧ a1 ≤ 9223372036854775807) :
    Calls Tryd.prog 4 #[.slice A0 n0 c0, .int .i64 a1] w fun e w' => e = .returned (.bool true) ∧ Nx w w' := by
  have LX := Lib.hid e0.len
  clear _b0
  go_enter Tryd.func4, Tryd.ntmps4
  go_wp2
  go_loop [5] (fun i => ∃ k : Nat, k ≤ n0 ∧ i = .int .i64 k ∧ Hid (∀ z ∈ z0.take k, goodB z = true)) (fun i => n0 - (RowKit.intOf i).toNat)
  case atStart => exact ⟨0, Nat.zero_le _, rfl, by simp [Hid]⟩
  case round =>
    obtain ⟨k, hk, rfl, hgs⟩ := hrel
    by_cases hlt : k < n0
    · obtain ⟨b, off, u, rfl, hb, q1, hu⟩ := e0.at_ hlt
      by_cases hg : goodB u = true
      · have hs : Hid (∀ z ∈ z0.take (k + 1), goodB z = true) := good_snoc (by rw [LX.out]; exact hlt) hgs.out (by rw [hu.out]; exact hg)
        go_wp2_with (go_at_call 17; refine (good_any _ _).mono ?_; rintro e w' ⟨rfl, rfl⟩)
        go_round
        case rel => exact ⟨k + 1, by omega, by go_num, hs⟩
        case measure => simp [RowKit.intOf]; omega
      · have hg' : goodB u = false := by simpa using hg
        clear hg
        go_wp2_with (go_at_call 17; refine (good_any _ _).mono ?_; rintro e w' ⟨rfl, rfl⟩)
        go_ret
        exact ⟨rfl, Nx.refl _⟩
    · have hall : Hid (∀ z ∈ z0, goodB z = true) := good_all LX.out (by omega) hgs.out
      clear hgs
      obtain rfl : k = n0 := by omega
      by_cases hi0 : a1 < 0
      · obtain ⟨X, hX⟩ : ∃ X, Hid (strOf (text z0) = X) := ⟨_, rfl⟩
        have hXs : X.size ≤ 4 * k := by have := (text_length z0).2; rw [← hX.out, strOf_size]; rw [LX.out] at this; omega
        have hXd : Hid (X.data.toList = text z0) := by show _ = _; rw [← hX.out, strOf_data]
        have hXl : Hid ((text z0).length = X.size) := by show _ = _; rw [← hX.out, strOf_size]
        have ct := Lib.hid fun W hx => text_any A0 k c0 z0 W hx (by omega)
        rw [hX.out] at ct
        have hcv := fun W => run_str_bytes (P := Tryd.prog) 9 30 5 Tryd.underlying9 Tryd.underlying30 Tryd.underlying5 X W
        go_wp2_with fail
        refine (ct.out _ e0).mono ?_
        rintro e w1 ⟨rfl, x1⟩
        have sb := by_str_bytes 5 X w1
        have xb := nx_str_bytes 5 X w1
        have hcap := grownCap_ge w1 X.size 0 5
        rw [hXd.out] at sb
        obtain ⟨C, hC⟩ : ∃ C, grownCap w1 X.size 0 5 = C := ⟨_, rfl⟩
        rw [hC] at hcap
        obtain ⟨w2, hw2⟩ : ∃ w2, (w1.alloc (bytesObj 5 X w1)).drew = w2 := ⟨_, rfl⟩
        rw [hw2] at sb xb
        have hcv1 := hcv w1
        rw [hw2, hC] at hcv1
        clear hcv hw2 hC
        have y2 := x1.trans xb
        obtain ⟨P0, hP0⟩ : ∃ P0, Hid ((some ⟨w1.heap.size, 0, none⟩ : Option Addr) = P0) := ⟨_, rfl⟩
        rw [hP0.out] at hcv1 sb
        go_wp2_with fail
        go_ret
        exact ⟨rfl, y2⟩
      · have zi0 : decide (a1 < 0) = false := by simp; omega
        obtain ⟨i, rfl⟩ : ∃ i : Nat, a1 = (i : Int) := ⟨a1.toNat, by omega⟩
        obtain ⟨X, hX⟩ : ∃ X, Hid (strOf (text z0) = X) := ⟨_, rfl⟩
        have hXs : X.size ≤ 4 * k := by have := (text_length z0).2; rw [← hX.out, strOf_size]; rw [LX.out] at this; omega
        have hXd : Hid (X.data.toList = text z0) := by show _ = _; rw [← hX.out, strOf_data]
        have hXl : Hid ((text z0).length = X.size) := by show _ = _; rw [← hX.out, strOf_size]
        have ct := Lib.hid fun W hx => text_any A0 k c0 z0 W hx (by omega)
        rw [hX.out] at ct
        have hcv := fun W => run_str_bytes (P := Tryd.prog) 9 30 5 Tryd.underlying9 Tryd.underlying30 Tryd.underlying5 X W
        go_wp2_with fail
        refine (ct.out _ e0).mono ?_
        rintro e w1 ⟨rfl, x1⟩
        have sb := by_str_bytes 5 X w1
        have xb := nx_str_bytes 5 X w1
        have hcap := grownCap_ge w1 X.size 0 5
        rw [hXd.out] at sb
        obtain ⟨C, hC⟩ : ∃ C, grownCap w1 X.size 0 5 = C := ⟨_, rfl⟩
        rw [hC] at hcap
        obtain ⟨w2, hw2⟩ : ∃ w2, (w1.alloc (bytesObj 5 X w1)).drew = w2 := ⟨_, rfl⟩
        rw [hw2] at sb xb
        have hcv1 := hcv w1
        rw [hw2, hC] at hcv1
        clear hcv hw2 hC
        have y2 := x1.trans xb
        obtain ⟨P0, hP0⟩ : ∃ P0, Hid ((some ⟨w1.heap.size, 0, none⟩ : Option Addr) = P0) := ⟨_, rfl⟩
        rw [hP0.out] at hcv1 sb
        by_cases hi1 : X.size ≤ i
        · have zi1 : (X.size : Int) ≤ (i : Int) := by omega
          go_wp2_with fail
          go_ret
          exact ⟨rfl, y2⟩
        · have zi1 : decide ((X.size : Int) ≤ (i : Int)) = false := by simp; omega
          have hil : i < X.size := by omega
          obtain ⟨b, off, u, hA, hb, q1, u0, u1, hu⟩ := sb.at_ hil
          subst hA
          have hv : validB (text z0) = true := validB_text' z0 hall.out
          have hup := fun W => run_upto (P := Tryd.prog) 30 5 Tryd.underlying30 (fun _ => by kernel_rfl) (some ⟨b, off, none⟩) X.size C .i64 (i : Int) i rfl (by omega) W
          have hcut := fun W => run_cut (P := Tryd.prog) 30 5 Tryd.underlying30 (fun _ => by kernel_rfl) (some ⟨b, off, none⟩) X.size C .i64 (i : Int) i rfl (by omega) W
          have sf := By.upto (j := i) sb (by omega)
          have st := By.from_ (i := i) (cap := C) sb (by omega) hcap
          have i1 : (i : Int) < (X.size : Int) := by omega
          have hsb := start_byte ((text z0).getD i 0)
          rw [hu.out] at hsb
          have Q1 : Hid (∀ w3, Nx w2 w3 → w3.cell? ⟨b, off + i, none⟩ = some (.int .u8 u)) := fun w3 h => (h.cell (p := ⟨b, off + i, none⟩) hb).trans q1
          cases hB : startB u with
          | true =>
            have hfr : ((text z0).getD i 0).toNat / 64 ≠ 2 := by rw [hB] at hsb; exact of_decide_eq_true hsb.symm
            obtain ⟨v1, v2, _⟩ := fresh_cut hv (fresh_drop (by rw [hXl.out]; exact hil) hfr)
            have V1 := Lib.hid v1
            have V2 := Lib.hid v2
            have zq : ((u / 64) != 2) = true := by have h3 := hu.out; simp; omega
            clear v1 v2 hsb hfr
            clear hv hi0 hi1
            go_wp2_with (go_at_call 19; refine (start_any u _ u0 (by omega)).mono ?_; rintro e w' ⟨rfl, rfl⟩)
            refine (valid_any _ _ _ ((text z0).take i) _ (hT.next y2) sf (by omega) (by omega)).mono ?_
            rw [V1.out]
            rintro e w3 ⟨rfl, x3⟩
            have y3 := y2.trans x3
            go_wp2_with fail
            refine (valid_any _ _ _ ((text z0).drop i) _ (hT.next y3) (st.next x3) (by omega) (by omega)).mono ?_
            rw [V2.out]
            rintro e w4 ⟨rfl, x4⟩
            go_wp2_with fail
            go_ret
            exact ⟨rfl, y3.trans x4⟩
          | false =>
            have hfr : ((text z0).getD i 0).toNat / 64 = 2 := by rw [hB] at hsb; have := of_decide_eq_false hsb.symm; omega
            have V1 := Lib.hid (stale_take hv (by rw [hXl.out]; exact hil) hfr)
            have V2 := Lib.hid (stale_drop (by rw [hXl.out]; exact hil) hfr)
            have zq : ((u / 64) != 2) = false := by have h3 := hu.out; simp; omega
            clear hsb hfr
            clear hv hi0 hi1
            go_wp2_with (go_at_call 19; refine (start_any u _ u0 (by omega)).mono ?_; rintro e w' ⟨rfl, rfl⟩)
            refine (valid_any _ _ _ ((text z0).take i) _ (hT.next y2) sf (by omega) (by omega)).mono ?_
            rw [V1.out]
            rintro e w3 ⟨rfl, x3⟩
            have y3 := y2.trans x3
            go_wp2_with fail
            refine (valid_any _ _ _ ((text z0).drop i) _ (hT.next y3) (st.next x3) (by omega) (by omega)).mono ?_
            rw [V2.out]
            rintro e w4 ⟨rfl, x4⟩
            go_wp2_with fail
            go_ret
            exact ⟨rfl, y3.trans x4⟩
namespace fnCuts
open Go.ChangeShapes Go.WideShapes Go.ChangeAt Go.RowKit
open Go.ChangeMaps (open_string shut_string)
set_option maxRecDepth 100000 in
set_option linter.unusedVariables false in
theorem laid_met (os : Os) : laidMet Tryd.prog Rows.fnCutsRow.laid ((laidWorld os).forCall (fun _ _ => 0) ⟨#[], #[.slice none 0 0, .int .i64 0], []⟩).memory :=
  laidMet_of_run' 8 (by kernel_rfl) (by kernel_rfl)
theorem reads (os : Os) {H : Type} (enc : TypeId × Value → H) : ∃ places, DataW.whole enc Tryd.prog ((laidWorld os).forCall (fun _ _ => 0) ⟨#[], #[.slice none 0 0, .int .i64 0], []⟩).memory Tryd.f4.params.toList Rows.fnCutsSpec.vars false (#[.slice none 0 0, .int .i64 0] : Array Value).toList 8 = some ([.nil, .lit (.int .i64 0)], [], places) :=
  ⟨[], by kernel_rfl⟩
set_option maxRecDepth 100000 in
set_option linter.unusedVariables false in
theorem lifted (os : Os) (started : os.Started) (H : Type) (enc : TypeId × Value → H) (F : Stop.Interp) :
    ReturnsInHanded {} Tryd.checked os 4 .any ((OpenSpec.ofChange Rows.fnCutsSpec).preRow enc Tryd.prog Tryd.f4 Rows.fnCutsRow.domain false Rows.fnCutsRow.laid) (((OpenSpec.ofChange Rows.fnCutsSpec).at F).post enc Tryd.prog Tryd.f4 false true false false) := by
  obtain ⟨places, hx⟩ := reads os enc
  refine returnsInHanded_of_row (C := Tryd.checked) (s := (OpenSpec.ofChange Rows.fnCutsSpec)) own started (by kernel_rfl) Tryd.func4
    (witness_row_at (enc := enc) (C := Tryd.checked) false (laidWorld os) #[.slice none 0 0, .int .i64 0] rfl (by kernel_rfl) (by kernel_rfl) (by kernel_rfl)
      (OpenSpec.preRow_of_cond 8 hx (by kernel_rfl) (fun k hk => by cases hk) (by kernel_rfl) (laid_met os))) ?_
  intro W base args ds gs before hval0 hW _ hkk hsz0 hL _ _
  have hsz : (DataW.weightsEach Tryd.prog (Tryd.f4.params.toList ++ (OpenSpec.ofChange Rows.fnCutsSpec).bare.plain.varTypes Tryd.prog) (ds ++ gs)).all (· ≤ reachBytes) = true := hsz0
  rw [Tryd.params4] at hsz
  have hval : ∀ (j : Nat) t v, Tryd.f4.params[j]? = some t → args[j]? = some v → Value.okWide Tryd.prog W .any base t v := hval0
  have hW' := hW
  obtain ⟨p, q, hA0, hV, rfl, hfz, hnd⟩ := hW
  have hA : DataW.TrodAll enc Tryd.prog W 0 (fun _ => true) true Tryd.f4.params.toList args.toList ds p := hA0
  rw [Tryd.params4] at hA hval
  obtain ⟨v0, vs0, d0, ds0, p0, q0, hargs, rfl, rfl, h0, r0⟩ := trodAll_cons hA
  obtain ⟨v1, vs1, d1, ds1, p1, q1, rfl, rfl, rfl, h1, r1⟩ := trodAll_cons r0
  obtain ⟨rfl, rfl, rfl⟩ := trodAll_nil r1
  obtain rfl : args = #[v0, v1] := by cases args; simp_all
  obtain ⟨rfl, rfl⟩ := trodVars_none hV
  have k0 := h0
  have lt0 : ∀ x ∈ p0, x.block < W.heap.size := by obtain ⟨m, hm⟩ := k0; exact DataW.trod_lt m _ _ _ hm
  obtain ⟨A0, n0, c0, zz0, rfl, e0, g0, m0, w0, u0⟩ := open_sl Tryd.underlying23 Tryd.underlying21 (by kernel_rfl) (hval 0 23 v0 rfl rfl) h0
  have b0 : ∀ z ∈ zz0, -2147483648 ≤ z ∧ z ≤ 2147483647 := fun z hz => by simpa [Lit.wf, IntKind.min, IntKind.max, IntKind.signed, IntKind.bits] using w0 z hz
  have z0 : c0 ≤ 35184372087808 := by have := held_size (j := 0) (t := 23) (b := 4) hsz (by kernel_rfl) (by rfl) rfl Tryd.underlying23 u0; omega
  have k1 := h1
  have lt1 : ∀ x ∈ p1, x.block < W.heap.size := by obtain ⟨m, hm⟩ := k1; exact DataW.trod_lt m _ _ _ hm
  obtain ⟨a1, rfl, rfl, rfl, w1⟩ := open_int Tryd.underlying2 (hval 1 2 v1 rfl rfl) h1
  have b1 : -9223372036854775808 ≤ a1 ∧ a1 ≤ 9223372036854775807 := by simpa [Lit.wf, IntKind.min, IntKind.max, IntKind.signed, IntKind.bits] using w1
  clear hA0 hval0
  refine (fnCuts_walk A0 n0 c0 zz0 a1 W (tabs hL) e0 b0 g0 z0 b1).mono fun e W' ⟨he, bel⟩ => ?_
  subst he
  exact ⟨_, rfl, _, _, _, [], _, [], hW', trodAll_mk1 (shut_bool Tryd.underlying4 _), (trodAll_cons_mk (Below.trod laidOut (by kernel_rfl) (of_decide_eq_true (by kernel_rfl)) k0 bel.out lt0) (trodAll_cons_mk (shut_int Tryd.underlying2 w1) trodAll_mk0)), rfl, bel.out.frame _, fun h => by cases h⟩
theorem row : Rows.FnCutsSaid :=
  OpenClaim.holds_of_cond 4 Tryd.f4 rfl rfl rfl rfl rfl rfl rfl ⟨rfl, rfl, rfl, rfl, rfl⟩ rfl rfl rfl rfl rfl (by kernel_rfl) Tryd.func4 (by kernel_rfl)
    (of_decide_eq_true (by kernel_rfl)) (by unfold Func.isWrapper; first | (rw [if_pos (by decide +kernel)]; kernel_rfl) | (rw [if_neg (by decide +kernel)]; exact ⟨rfl, rfl⟩))
    (fun os started H enc _ F => by rw [OpenClaim.pre_eq_preRow]; exact lifted os started H enc F)
theorem plain (f : FuncId) (fn : Func) (hf : Tryd.pinned.checked.prog.funcNamed Rows.fnCutsRow.func = some f) (hfn : Tryd.pinned.checked.prog.funcs[f]? = some fn) :
    false = Tryd.pinned.checked.prog.looks [] ∧ ∀ (j : Nat) t, fn.params[j]? = some t → Tryd.pinned.checked.prog.wantsStandIn t = false := by
  obtain rfl : f = 4 := Option.some.inj ((show Tryd.prog.funcNamed Rows.fnCutsRow.func = some 4 by kernel_rfl).symm.trans hf) |>.symm
  obtain rfl : fn = Tryd.f4 := (Option.some.inj (Tryd.func4.symm.trans hfn)).symm
  refine ⟨by kernel_rfl, fun j t ht => ?_⟩
  rw [Tryd.params4] at ht
  have hm := Array.mem_of_getElem? ht
  have hor : t = 2 ∨ t = 23 := by simp at hm; first | exact hm.symm | (rcases hm with h | h <;> simp [h]) | (rcases hm with h | h | h <;> simp [h]) | (rcases hm with h | h | h | h <;> simp [h])
  rcases hor with rfl | rfl
  · exact (show Tryd.prog.wantsStandIn 2 = false by kernel_rfl)
  · exact (show Tryd.prog.wantsStandIn 23 = false by kernel_rfl)
theorem said : Rows.FnCutsCardSaid :=
  Claim7.holds_tied_plain_at .later [] _ _ _ _ row (fun _ h => by cases h) (by kernel_rfl) (fun _ h => by cases h) fnCuts_row_tie rfl ⟨rfl, rfl⟩ (by kernel_rfl) rfl plain (by kernel_rfl)
end fnCuts
end Go.Proofs.YtdhofjhmbdeibaaDoor
