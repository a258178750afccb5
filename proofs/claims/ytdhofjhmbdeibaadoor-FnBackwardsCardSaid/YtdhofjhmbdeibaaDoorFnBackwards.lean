/- FnBackwards: a text of good runes is decoded from its end to the same runes, in the opposite order. The tables are those that the program lays. -/
import Derived.Test.YtdhofjhmbdeibaaDoorFrame
import Derived.Test.YtdhofjhmbdeibaaDoorDecodeU
import Derived.Test.YtdhofjhmbdeibaaDoorText
import Derived.Test.YtdhofjhmbdeibaaDoorPlainE
namespace Go.Proofs.YtdhofjhmbdeibaaDoor
open Go.RowKit Go.Lib
set_option linter.unusedVariables false
set_option maxRecDepth 100000 in
set_option maxHeartbeats 1000000 in
theorem fnBackwards_walk (A0 : Option Addr) (n0 c0 : Nat) (z0 : List Int) (w : World) (hT : Tabs w) (e0 : Sl .i32 w A0 n0 z0) (_b0 : ∀ z ∈ z0, -2147483648 ≤ z ∧ z ≤ 2147483647) (g0 : n0 ≤ c0) (m0 : c0 ≤ 35184372087808) :
    Calls Tryd.prog 10 #[.slice A0 n0 c0] w fun e w' => e = .returned (.bool true) ∧ Nx w w' := by
  have LX := Lib.hid e0.len
  clear _b0
  go_enter Tryd.func10, Tryd.ntmps10
  go_wp2
  go_loop [3] (fun i => ∃ k : Nat, k ≤ n0 ∧ i = .int .i64 k ∧ Hid (∀ z ∈ z0.take k, goodB z = true)) (fun i => n0 - (RowKit.intOf i).toNat)
  case atStart => exact ⟨0, Nat.zero_le _, rfl, by simp [Hid]⟩
  case round =>
    obtain ⟨k, hk, rfl, hgs⟩ := hrel
    by_cases hlt : k < n0
    · obtain ⟨b, off, u, rfl, hb, q1, hu⟩ := e0.at_ hlt
      by_cases hg : goodB u = true
      · have hs : Hid (∀ z ∈ z0.take (k + 1), goodB z = true) := good_snoc (by rw [LX.out]; exact hlt) hgs.out (by rw [hu.out]; exact hg)
        go_wp2_with (go_at_call 17; refine (good_any _ _).mono ?_; rintro e w' ⟨rfl, rfl⟩)
        go_round
        case rel => exact ⟨k + 1, by omega, by go_num, hs⟩
        case measure => simp [RowKit.intOf]; omega
      · have hg' : goodB u = false := by simpa using hg
        clear hg
        go_wp2_with (go_at_call 17; refine (good_any _ _).mono ?_; rintro e w' ⟨rfl, rfl⟩)
        go_ret
        exact ⟨rfl, Nx.refl _⟩
    · have hall : Hid (∀ z ∈ z0, goodB z = true) := good_all LX.out (by omega) hgs.out
      clear hgs
      obtain rfl : k = n0 := by omega
      obtain ⟨X, hX⟩ : ∃ X, Hid (strOf (text z0) = X) := ⟨_, rfl⟩
      have hXs : X.size ≤ 4 * k := by have := (text_length z0).2; rw [← hX.out, strOf_size]; rw [LX.out] at this; omega
      have hXd : Hid (X.data.toList = text z0) := by show _ = _; rw [← hX.out, strOf_data]
      have ct := Lib.hid fun W hx => text_any A0 k c0 z0 W hx (by omega)
      rw [hX.out] at ct
      have hcv := fun W => run_str_bytes (P := Tryd.prog) 9 30 5 Tryd.underlying9 Tryd.underlying30 Tryd.underlying5 X W
      go_wp2_with fail
      refine (ct.out _ e0).mono ?_
      rintro e w1 ⟨rfl, x1⟩
      have sb := by_str_bytes 5 X w1
      have xb := nx_str_bytes 5 X w1
      have hcap := grownCap_ge w1 X.size 0 5
      rw [hXd.out] at sb
      obtain ⟨C, hC⟩ : ∃ C, grownCap w1 X.size 0 5 = C := ⟨_, rfl⟩
      rw [hC] at hcap
      have HC := Lib.hid hC
      obtain ⟨w2, hw2⟩ : ∃ w2, (w1.alloc (bytesObj 5 X w1)).drew = w2 := ⟨_, rfl⟩
      rw [hw2] at sb xb
      have hcv1 := hcv w1
      rw [hw2, hC] at hcv1
      clear hcv hw2 hC
      have y2 := x1.trans xb
      go_wp2_with fail
      clear hcv1
      have S0 : Hid (text z0 = text (z0.take k)) := by show _ = _; rw [List.take_of_length_le (by rw [LX.out]; exact Nat.le_refl _)]
      have SL : Hid (X.size = (text (z0.take k)).length) := by show _ = _; rw [← S0.out, ← size_list, hXd.out]
      rw [S0.out] at sb
      go_loopw [4, 5] (fun v i wr => ∃ (j m : Nat), j ≤ k ∧ m ≤ X.size ∧ i = .int .i64 ((j : Int) - 1) ∧ v = .slice (some ⟨w1.heap.size, 0, none⟩) m C ∧ By w2 (some ⟨w1.heap.size, 0, none⟩) m (text (z0.take j)) ∧ Nx w2 wr) (fun _ i _ => ((RowKit.intOf i) + 1).toNat)
      case atStart => exact ⟨k, X.size, Nat.le_refl _, Nat.le_refl _, rfl, rfl, sb, Nx.refl _⟩
      case round =>
        obtain ⟨j, m, hj, hm, rfl, rfl, sj, hnx⟩ := hrel
        by_cases hj0 : j = 0
        · subst hj0
          have hm0 : m = 0 := by have := sj.len; simp [text] at this; omega
          subst hm0
          go_wp2_with fail
          go_ret
          exact ⟨rfl, y2.trans hnx⟩
        · obtain ⟨i, rfl⟩ : ∃ i, j = i + 1 := ⟨j - 1, by omega⟩
          have hik : i < k := by omega
          obtain ⟨b, off, u, rfl, hb, q1, hu⟩ := (e0.next (y2.trans hnx)).at_ hik
          have hg : goodB u = true := by
            rw [← hu.out]
            refine hall.out _ ?_
            have : i < z0.length := by rw [LX.out]; exact hik
            simp [List.getD, List.getElem?_eq_getElem this]
          have HS : Hid (text (z0.take (i + 1)) = text (z0.take i) ++ encodeRune u) := by show _ = _; have := text_snoc z0 i (by rw [LX.out]; exact hik); rwa [hu.out] at this
          obtain ⟨K, hK⟩ : ∃ K, Hid ((encodeRune u).length = K) := ⟨_, rfl⟩
          have hKl := enc_length u
          rw [hK.out] at hKl
          obtain ⟨k1, k4⟩ := hKl
          have hml : m = (text (z0.take i)).length + K := by have := sj.len; rw [HS.out, List.length_append, hK.out] at this; omega
          have HA : Hid ((u.toNat : Int) = u) := by show _ = _; have := hg; rw [goodB_iff] at this; omega
          have hd : Hid (decodeLastL (text (z0.take (i + 1))) = (u.toNat, K)) := by show _ = _; rw [HS.out, last_enc hg, hK.out]
          have sn := By.upto (j := m - K) sj (by omega)
          have hT2 : Hid ((text (z0.take (i + 1))).take (m - K) = text (z0.take i)) := by show _ = _; rw [HS.out, hml, Nat.add_sub_cancel, List.take_left]
          rw [hT2.out] at sn
          have hup := fun W => run_upto (P := Tryd.prog) 30 5 Tryd.underlying30 (fun _ => by kernel_rfl) (some ⟨w1.heap.size, 0, none⟩) m C .i64 ((m : Int) - (K : Int)) (m - K) (by omega) (by omega) W
          have r1 : (u != u) = false := by simp
          have hkm : K ≤ m := by omega
          have Q1 : Hid (∀ w3, Nx wr w3 → w3.cell? ⟨b, off + i, none⟩ = some (.int .i32 u)) := fun w3 h => (h.cell (p := ⟨b, off + i, none⟩) hb).trans q1
          have i0 : (0 : Int) ≤ ((i + 1 : Nat) : Int) - 1 := by omega
          have HI : ((i + 1 : Nat) : Int) - 1 = (i : Int) := by omega
          rw [HI]
          have i1 : (i : Int) < (k : Int) := by omega
          clear hml q1 hu hg hj0 i0 HI
          go_wp2_with fail
          refine (last_any _ _ _ (text (z0.take (i + 1))) _ (hT.next (y2.trans hnx)) (sj.next hnx) (by omega) (by omega)).mono ?_
          rw [hd.out]
          simp only
          rw [HA.out]
          rintro e w3 ⟨rfl, x3⟩
          have q1 := Q1.out w3 x3
          go_wp2_with fail
          go_roundw
          case rel => exact ⟨i, m - K, by omega, by omega, by go_num, rfl, sn, hnx.trans x3⟩
          case measure => simp [RowKit.intOf] <;> omega
namespace fnBackwards
open Go.ChangeShapes Go.WideShapes Go.ChangeAt Go.RowKit
open Go.ChangeMaps (open_string shut_string)
set_option maxRecDepth 100000 in
set_option linter.unusedVariables false in
theorem laid_met (os : Os) : laidMet Tryd.prog Rows.fnBackwardsRow.laid ((laidWorld os).forCall (fun _ _ => 0) ⟨#[], #[.slice none 0 0], []⟩).memory :=
  laidMet_of_run' 8 (by kernel_rfl) (by kernel_rfl)
theorem reads (os : Os) {H : Type} (enc : TypeId × Value → H) : ∃ places, DataW.whole enc Tryd.prog ((laidWorld os).forCall (fun _ _ => 0) ⟨#[], #[.slice none 0 0], []⟩).memory Tryd.f10.params.toList Rows.fnBackwardsSpec.vars false (#[.slice none 0 0] : Array Value).toList 8 = some ([.nil], [], places) :=
  ⟨[], by kernel_rfl⟩
set_option maxRecDepth 100000 in
set_option linter.unusedVariables false in
theorem lifted (os : Os) (started : os.Started) (H : Type) (enc : TypeId × Value → H) (F : Stop.Interp) :
    ReturnsInHanded {} Tryd.checked os 10 .any ((OpenSpec.ofChange Rows.fnBackwardsSpec).preRow enc Tryd.prog Tryd.f10 Rows.fnBackwardsRow.domain false Rows.fnBackwardsRow.laid) (((OpenSpec.ofChange Rows.fnBackwardsSpec).at F).post enc Tryd.prog Tryd.f10 false true false false) := by
  obtain ⟨places, hx⟩ := reads os enc
  refine returnsInHanded_of_row (C := Tryd.checked) (s := (OpenSpec.ofChange Rows.fnBackwardsSpec)) own started (by kernel_rfl) Tryd.func10
    (witness_row_at (enc := enc) (C := Tryd.checked) false (laidWorld os) #[.slice none 0 0] rfl (by kernel_rfl) (by kernel_rfl) (by kernel_rfl)
      (OpenSpec.preRow_of_cond 8 hx (by kernel_rfl) (fun k hk => by cases hk) (by kernel_rfl) (laid_met os))) ?_
  intro W base args ds gs before hval0 hW _ hkk hsz0 hL _ _
  have hsz : (DataW.weightsEach Tryd.prog (Tryd.f10.params.toList ++ (OpenSpec.ofChange Rows.fnBackwardsSpec).bare.plain.varTypes Tryd.prog) (ds ++ gs)).all (· ≤ reachBytes) = true := hsz0
  rw [Tryd.params10] at hsz
  have hval : ∀ (j : Nat) t v, Tryd.f10.params[j]? = some t → args[j]? = some v → Value.okWide Tryd.prog W .any base t v := hval0
  have hW' := hW
  obtain ⟨p, q, hA0, hV, rfl, hfz, hnd⟩ := hW
  have hA : DataW.TrodAll enc Tryd.prog W 0 (fun _ => true) true Tryd.f10.params.toList args.toList ds p := hA0
  rw [Tryd.params10] at hA hval
  obtain ⟨v0, vs0, d0, ds0, p0, q0, hargs, rfl, rfl, h0, r0⟩ := trodAll_cons hA
  obtain ⟨rfl, rfl, rfl⟩ := trodAll_nil r0
  obtain rfl : args = #[v0] := by cases args; simp_all
  obtain ⟨rfl, rfl⟩ := trodVars_none hV
  have k0 := h0
  have lt0 : ∀ x ∈ p0, x.block < W.heap.size := by obtain ⟨m, hm⟩ := k0; exact DataW.trod_lt m _ _ _ hm
  obtain ⟨A0, n0, c0, zz0, rfl, e0, g0, m0, w0, u0⟩ := open_sl Tryd.underlying23 Tryd.underlying21 (by kernel_rfl) (hval 0 23 v0 rfl rfl) h0
  have b0 : ∀ z ∈ zz0, -2147483648 ≤ z ∧ z ≤ 2147483647 := fun z hz => by simpa [Lit.wf, IntKind.min, IntKind.max, IntKind.signed, IntKind.bits] using w0 z hz
  have z0 : c0 ≤ 35184372087808 := by have := held_size (j := 0) (t := 23) (b := 4) hsz (by kernel_rfl) (by rfl) rfl Tryd.underlying23 u0; omega
  clear hA0 hval0
  refine (fnBackwards_walk A0 n0 c0 zz0 W (tabs hL) e0 b0 g0 z0).mono fun e W' ⟨he, bel⟩ => ?_
  subst he
  exact ⟨_, rfl, _, _, _, [], _, [], hW', trodAll_mk1 (shut_bool Tryd.underlying4 _), (trodAll_cons_mk (Below.trod laidOut (by kernel_rfl) (of_decide_eq_true (by kernel_rfl)) k0 bel.out lt0) trodAll_mk0), rfl, bel.out.frame _, fun h => by cases h⟩
theorem row : Rows.FnBackwardsSaid :=
  OpenClaim.holds_of_cond 10 Tryd.f10 rfl rfl rfl rfl rfl rfl rfl ⟨rfl, rfl, rfl, rfl, rfl⟩ rfl rfl rfl rfl rfl (by kernel_rfl) Tryd.func10 (by kernel_rfl)
    (of_decide_eq_true (by kernel_rfl)) (by unfold Func.isWrapper; first | (rw [if_pos (by decide +kernel)]; kernel_rfl) | (rw [if_neg (by decide +kernel)]; exact ⟨rfl, rfl⟩))
    (fun os started H enc _ F => by rw [OpenClaim.pre_eq_preRow]; exact lifted os started H enc F)
theorem plain (f : FuncId) (fn : Func) (hf : Tryd.pinned.checked.prog.funcNamed Rows.fnBackwardsRow.func = some f) (hfn : Tryd.pinned.checked.prog.funcs[f]? = some fn) :
    false = Tryd.pinned.checked.prog.looks [] ∧ ∀ (j : Nat) t, fn.params[j]? = some t → Tryd.pinned.checked.prog.wantsStandIn t = false := by
  obtain rfl : f = 10 := Option.some.inj ((show Tryd.prog.funcNamed Rows.fnBackwardsRow.func = some 10 by kernel_rfl).symm.trans hf) |>.symm
  obtain rfl : fn = Tryd.f10 := (Option.some.inj (Tryd.func10.symm.trans hfn)).symm
  refine ⟨by kernel_rfl, fun j t ht => ?_⟩
  rw [Tryd.params10] at ht
  have hm := Array.mem_of_getElem? ht
  have hor : t = 23 := by simp at hm; omega
  subst hor
  exact (show Tryd.prog.wantsStandIn 23 = false by kernel_rfl)
theorem said : Rows.FnBackwardsCardSaid :=
  Claim7.holds_tied_plain_at .later [] _ _ _ _ row (fun _ h => by cases h) (by kernel_rfl) (fun _ h => by cases h) fnBackwards_row_tie rfl ⟨rfl, rfl⟩ (by kernel_rfl) rfl plain (by kernel_rfl)
end fnBackwards
end Go.Proofs.YtdhofjhmbdeibaaDoor
