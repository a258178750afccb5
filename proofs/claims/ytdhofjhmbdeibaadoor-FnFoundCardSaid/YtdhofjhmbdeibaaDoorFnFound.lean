/- FnFound: where a text of good runes is found in another one, it begins and ends between runes: what stands before and behind it is valid. The tables are those that the program lays. -/
import Derived.Test.YtdhofjhmbdeibaaDoorFrame
import Derived.Test.YtdhofjhmbdeibaaDoorDecodeU
import Derived.Test.YtdhofjhmbdeibaaDoorValidU
import Derived.Test.YtdhofjhmbdeibaaDoorCount
import Derived.Test.YtdhofjhmbdeibaaDoorStart
import Derived.Test.YtdhofjhmbdeibaaDoorText
import Derived.Test.YtdhofjhmbdeibaaDoorSame
import Derived.Test.YtdhofjhmbdeibaaDoorPlainF
namespace Go.Proofs.YtdhofjhmbdeibaaDoor
open Go.RowKit Go.Lib
set_option linter.unusedVariables false
theorem found {a b : List Int} (ha : ∀ r ∈ a, goodB r = true) (hb : ∀ r ∈ b, goodB r = true) (hne : b ≠ []) {i : Nat} (hs : ((text a).take (i + (text b).length)).drop i = text b) (hi : i + (text b).length ≤ (text a).length) :
    validB ((text a).take i) = true ∧ validB ((text a).drop (i + (text b).length)) = true ∧ ((text a).getD i 0).toNat / 64 ≠ 2 ∧ cnt ((text a).take i) + cnt ((text a).drop (i + (text b).length)) + b.length = cnt (text a) := by
  obtain ⟨r, rs, rfl⟩ := List.exists_cons_of_ne_nil hne
  have hr := hb r (by simp)
  have h1 : (text a).drop i = text (r :: rs) ++ (text a).drop (i + (text (r :: rs)).length) := by
    have := List.take_append_drop (text (r :: rs)).length ((text a).drop i)
    rw [List.drop_drop] at this
    rw [List.drop_take, Nat.add_sub_cancel_left] at hs
    rw [hs] at this
    exact this.symm
  have hf : fresh ((text a).drop i) := by
    rw [h1, text_cons, List.append_assoc]
    exact fresh_enc hr _
  obtain ⟨v1, v2, v3⟩ := fresh_cut (validB_text' a ha) hf
  rw [h1, validB_text _ hb] at v2
  rw [h1, cnt_text _ hb] at v3
  have hlen : 0 < (text (r :: rs)).length := by have := (text_length (r :: rs)).1; simp only [List.length_cons] at this; omega
  refine ⟨v1, v2, ?_, by omega⟩
  rcases hf with h | h
  · exfalso
    rw [List.drop_eq_nil_iff] at h
    omega
  · have : ((text a).drop i).getD 0 0 = (text a).getD i 0 := by simp [List.getD]
    rw [this] at h
    exact h
set_option maxRecDepth 100000 in
set_option maxHeartbeats 4000000 in
theorem fnFound_walk (A0 : Option Addr) (n0 c0 : Nat) (z0 : List Int) (A1 : Option Addr) (n1 c1 : Nat) (z1 : List Int) (a2 : Int) (w : World) (hT : Tabs w) (e0 : Sl .i32 w A0 n0 z0) (_b0 : ∀ z ∈ z0, -2147483648 ≤ z ∧ z ≤ 2147483647) (g0 : n0 ≤ c0) (m0 : c0 ≤ 35184372087808) (e1 : Sl .i32 w A1 n1 z1) (_b1 : ∀ z ∈ z1, -2147483648 ≤ z ∧ z ≤ 2147483647) (g1 : n1 ≤ c1) (m1 : c1 ≤ 35184372087808) (b2 : -9223372036854775808 ≤ a2 ∧ a2 ≤ 9223372036854775807) :
    Calls Tryd.prog 8 #[.slice A0 n0 c0, .slice A1 n1 c1, .int .i64 a2] w fun e w' => e = .returned (.bool true) ∧ Nx w w' := by
  have LX := Lib.hid e0.len
  have LY := Lib.hid e1.len
  clear _b0 _b1
  go_enter Tryd.func8, Tryd.ntmps8
  go_wp2
  go_loop [7] (fun i => ∃ kk : Nat, kk ≤ n0 ∧ i = .int .i64 kk ∧ Hid (∀ z ∈ z0.take kk, goodB z = true)) (fun i => n0 - (RowKit.intOf i).toNat)
  case atStart => exact ⟨0, Nat.zero_le _, rfl, by simp [Hid]⟩
  case round =>
    obtain ⟨ka, hk, rfl, hgs⟩ := hrel
    by_cases hlt : ka < n0
    · obtain ⟨b, off, u, rfl, hb, q1, hu⟩ := e0.at_ hlt
      by_cases hg : goodB u = true
      · have hs : Hid (∀ z ∈ z0.take (ka + 1), goodB z = true) := good_snoc (by rw [LX.out]; exact hlt) hgs.out (by rw [hu.out]; exact hg)
        go_wp2_with (go_at_call 17; refine (good_any _ _).mono ?_; rintro e w' ⟨rfl, rfl⟩)
        go_round
        case rel => exact ⟨ka + 1, by omega, by go_num, hs⟩
        case measure => simp [RowKit.intOf]; omega
      · have hg' : goodB u = false := by simpa using hg
        clear hg
        go_wp2_with (go_at_call 17; refine (good_any _ _).mono ?_; rintro e w' ⟨rfl, rfl⟩)
        go_ret
        exact ⟨rfl, Nx.refl _⟩
    · have hall : Hid (∀ z ∈ z0, goodB z = true) := good_all LX.out (by omega) hgs.out
      clear hgs
      obtain rfl : ka = n0 := by omega
      by_cases hb0 : n1 = 0
      · have zb0 : ((n1 : Int) == 0) = true := by simp [hb0]
        clear hb0
        go_wp2_with fail
        go_ret
        exact ⟨rfl, Nx.refl _⟩
      · have zb0 : ((n1 : Int) == 0) = false := by simp [hb0]
        have hpos : 0 < n1 := by omega
        clear hb0
        go_wp2_with fail
        go_loop [8] (fun i => ∃ kk : Nat, kk ≤ n1 ∧ i = .int .i64 kk ∧ Hid (∀ z ∈ z1.take kk, goodB z = true)) (fun i => n1 - (RowKit.intOf i).toNat)
        case atStart => exact ⟨0, Nat.zero_le _, rfl, by simp [Hid]⟩
        case round =>
          obtain ⟨k, hk, rfl, hgs⟩ := hrel
          by_cases hlt : k < n1
          · obtain ⟨b, off, u, rfl, hb, q1, hu⟩ := e1.at_ hlt
            by_cases hg : goodB u = true
            · have hs : Hid (∀ z ∈ z1.take (k + 1), goodB z = true) := good_snoc (by rw [LY.out]; exact hlt) hgs.out (by rw [hu.out]; exact hg)
              go_wp2_with (go_at_call 17; refine (good_any _ _).mono ?_; rintro e w' ⟨rfl, rfl⟩)
              go_round
              case rel => exact ⟨k + 1, by omega, by go_num, hs⟩
              case measure => simp [RowKit.intOf]; omega
            · have hg' : goodB u = false := by simpa using hg
              clear hg
              go_wp2_with (go_at_call 17; refine (good_any _ _).mono ?_; rintro e w' ⟨rfl, rfl⟩)
              go_ret
              exact ⟨rfl, Nx.refl _⟩
          · have hallb : Hid (∀ z ∈ z1, goodB z = true) := good_all LY.out (by omega) hgs.out
            clear hgs
            obtain rfl : k = n1 := by omega
            obtain ⟨X, hX⟩ : ∃ X, Hid (strOf (text z0) = X) := ⟨_, rfl⟩
            have hXs : X.size ≤ 4 * ka := by have := (text_length z0).2; rw [← hX.out, strOf_size]; rw [LX.out] at this; omega
            have hXd : Hid (X.data.toList = text z0) := by show _ = _; rw [← hX.out, strOf_data]
            have hXl : Hid ((text z0).length = X.size) := by show _ = _; rw [← hX.out, strOf_size]
            have ct := Lib.hid fun W hx => text_any A0 ka c0 z0 W hx (by omega)
            rw [hX.out] at ct
            have hcv := fun W => run_str_bytes (P := Tryd.prog) 9 30 5 Tryd.underlying9 Tryd.underlying30 Tryd.underlying5 X W
            go_wp2_with fail
            refine (ct.out _ e0).mono ?_
            rintro e w1 ⟨rfl, x1⟩
            have sb := by_str_bytes 5 X w1
            have xb := nx_str_bytes 5 X w1
            have hcap := grownCap_ge w1 X.size 0 5
            rw [hXd.out] at sb
            obtain ⟨C, hC⟩ : ∃ C, grownCap w1 X.size 0 5 = C := ⟨_, rfl⟩
            rw [hC] at hcap
            obtain ⟨w2, hw2⟩ : ∃ w2, (w1.alloc (bytesObj 5 X w1)).drew = w2 := ⟨_, rfl⟩
            rw [hw2] at sb xb
            have hcv1 := hcv w1
            rw [hw2, hC] at hcv1
            clear hcv hw2 hC
            have y2 := x1.trans xb
            obtain ⟨P0, hP0⟩ : ∃ P0, Hid ((some ⟨w1.heap.size, 0, none⟩ : Option Addr) = P0) := ⟨_, rfl⟩
            rw [hP0.out] at hcv1 sb
            obtain ⟨X', hX'⟩ : ∃ X', Hid (strOf (text z1) = X') := ⟨_, rfl⟩
            have hXs' : X'.size ≤ 4 * k := by have := (text_length z1).2; rw [← hX'.out, strOf_size]; rw [LY.out] at this; omega
            have hXd' : Hid (X'.data.toList = text z1) := by show _ = _; rw [← hX'.out, strOf_data]
            have hXl' : Hid ((text z1).length = X'.size) := by show _ = _; rw [← hX'.out, strOf_size]
            have ct' := Lib.hid fun W hx => text_any A1 k c1 z1 W hx (by omega)
            rw [hX'.out] at ct'
            have hcv' := fun W => run_str_bytes (P := Tryd.prog) 9 30 5 Tryd.underlying9 Tryd.underlying30 Tryd.underlying5 X' W
            go_wp2_with fail
            refine (ct'.out _ (e1.next y2)).mono ?_
            rintro e w1' ⟨rfl, x1'⟩
            have sb' := by_str_bytes 5 X' w1'
            have xb' := nx_str_bytes 5 X' w1'
            have hcap' := grownCap_ge w1' X'.size 0 5
            rw [hXd'.out] at sb'
            obtain ⟨C', hC'⟩ : ∃ C', grownCap w1' X'.size 0 5 = C' := ⟨_, rfl⟩
            rw [hC'] at hcap'
            obtain ⟨w2', hw2'⟩ : ∃ w2', (w1'.alloc (bytesObj 5 X' w1')).drew = w2' := ⟨_, rfl⟩
            rw [hw2'] at sb' xb'
            have hcv1' := hcv' w1'
            rw [hw2', hC'] at hcv1'
            clear hcv' hw2' hC'
            have y2' := (y2.trans x1').trans xb'
            obtain ⟨P0', hP0'⟩ : ∃ P0', Hid ((some ⟨w1'.heap.size, 0, none⟩ : Option Addr) = P0') := ⟨_, rfl⟩
            rw [hP0'.out] at hcv1' sb'
            clear hcv1
            have sA : By w2' P0 X.size (text z0) := (sb.next x1').next xb'
            have hX'p : 0 < X'.size := by have := (text_length z1).1; rw [hXl'.out, LY.out] at this; omega
            by_cases hi0 : a2 < 0
            · go_wp2_with fail
              go_ret
              exact ⟨rfl, y2'⟩
            · have zi0 : decide (a2 < 0) = false := by simp; omega
              obtain ⟨i, rfl⟩ : ∃ i : Nat, a2 = (i : Int) := ⟨a2.toNat, by omega⟩
              by_cases hi1 : X.size < i
              · have zi1 : (X.size : Int) < (i : Int) := by omega
                go_wp2_with fail
                go_ret
                exact ⟨rfl, y2'⟩
              · have zi1 : decide ((X.size : Int) < (i : Int)) = false := by simp; omega
                by_cases hi2 : X.size < i + X'.size
                · have zi2 : (X.size : Int) < (i : Int) + (X'.size : Int) := by omega
                  have ib : i ≤ X.size := by omega
                  clear hi0 hi1 hi2
                  go_wp2_with fail
                  go_ret
                  exact ⟨rfl, y2'⟩
                · have zi2 : decide ((X.size : Int) < (i : Int) + (X'.size : Int)) = false := by simp; omega
                  have ib : i + X'.size ≤ X.size := by omega
                  obtain ⟨S, hS⟩ : ∃ S, Hid (((text z0).take (i + X'.size)).drop i = S) := ⟨_, rfl⟩
                  have sc := By.cut (i := i) (j := i + X'.size) (cap := C) sA (by omega) ib hcap
                  rw [hS.out, Nat.add_sub_cancel_left] at sc
                  have hc2 := fun W => run_cut2 (P := Tryd.prog) 30 5 Tryd.underlying30 (fun _ => by kernel_rfl) P0 X.size C .i64 .i64 (i : Int) ((i : Int) + (X'.size : Int)) i (i + X'.size) rfl (by omega) (by omega) (by omega) W
                  rw [Nat.add_sub_cancel_left] at hc2
                  have cS := Lib.hid fun W (h : Nx w2' W) => nx_mono h (same_u8_by (cutA P0 C i) P0' X'.size X'.size (C - i) C' S (text z1) W (sc.next h) (sb'.next h) (by omega) (by omega))
                  clear hi0 hi1 hi2
                  cases hq : eqB S (text z1) with
                  | false =>
                    rw [hq] at cS
                    clear hq
                    go_wp2_with fail
                    refine (cS.out _ (Nx.refl _)).mono ?_
                    rintro e w3 ⟨rfl, x3⟩
                    clear hcv1'
                    go_wp2_with fail
                    go_ret
                    exact ⟨rfl, y2'.trans x3⟩
                  | true =>
                    rw [hq] at cS
                    have hSe := eqB_iff.1 hq
                    rw [← hS.out, ← hXl'.out] at hSe
                    obtain ⟨f1, f2, f3, f4⟩ := found hall.out hallb.out (by intro h; have := LY.out; rw [h] at this; simp at this; omega) hSe (by rw [hXl.out, hXl'.out]; exact ib)
                    rw [hXl'.out] at f2 f4
                    rw [LY.out] at f4
                    obtain ⟨q1, hq1⟩ : ∃ c, cnt ((text z0).take i) = c := ⟨_, rfl⟩
                    obtain ⟨q2, hq2⟩ : ∃ c, cnt ((text z0).drop (i + X'.size)) = c := ⟨_, rfl⟩
                    obtain ⟨q3, hq3⟩ : ∃ c, cnt (text z0) = c := ⟨_, rfl⟩
                    rw [hq1, hq2, hq3] at f4
                    have q3b : q3 ≤ ka := by rw [← hq3, text_cnt hall.out, LX.out]; exact Nat.le_refl _
                    obtain ⟨g, off, u, hA, hgb, cu, u0, u1, hu⟩ := sA.at_ (k := i) (by omega)
                    have hst : startB u = true := by rw [← hu.out, start_byte]; exact decide_eq_true f3
                    have cst := Lib.hid fun w => start_any u w u0 (by omega)
                    rw [hst] at cst
                    have sf := By.upto (j := i) sA (by omega)
                    have sk := By.from_ (i := i + X'.size) (cap := C) sA ib hcap
                    have hup := fun W => run_upto (P := Tryd.prog) 30 5 Tryd.underlying30 (fun _ => by kernel_rfl) P0 X.size C .i64 (i : Int) i rfl (by omega) W
                    have hcut := fun W => run_cut (P := Tryd.prog) 30 5 Tryd.underlying30 (fun _ => by kernel_rfl) P0 X.size C .i64 ((i : Int) + (X'.size : Int)) (i + X'.size) (by omega) ib W
                    have CU : Hid (∀ W, Nx w2' W → W.cell? ⟨g, off + i, none⟩ = some (.int .u8 u)) := fun W h => (h.cell (p := ⟨g, off + i, none⟩) hgb).trans cu
                    have zsum : ((q1 : Int) + (q2 : Int) + (k : Int) == (q3 : Int)) = true := by simp only [beq_iff_eq]; omega
                    have F1 := Lib.hid f1
                    have F2 := Lib.hid f2
                    have H1 := Lib.hid hq1
                    have H2 := Lib.hid hq2
                    have H3 := Lib.hid hq3
                    have q1b : q1 ≤ ka := by omega
                    have q2b : q2 ≤ ka := by omega
                    have kb : k ≤ ka := by omega
                    have i1 : (i : Int) < (X.size : Int) := by omega
                    subst hA
                    clear f1 f2 f3 f4 hq1 hq2 hq3 hSe hq hst cu
                    go_wp2_with fail
                    refine (cS.out _ (Nx.refl _)).mono ?_
                    rintro e w3 ⟨rfl, x3⟩
                    have y3 := y2'.trans x3
                    clear hcv1' hc2 cS
                    go_wp2_with fail
                    refine (valid_any _ _ _ ((text z0).take i) _ (hT.next y3) (sf.next x3) (by omega) (by omega)).mono ?_
                    rw [F1.out]
                    rintro e w4 ⟨rfl, x4'⟩
                    have x4 := x3.trans x4'
                    go_wp2_with fail
                    refine (valid_any _ _ _ ((text z0).drop (i + X'.size)) _ (hT.next (y2'.trans x4)) (sk.next x4) (by omega) (by omega)).mono ?_
                    rw [F2.out]
                    rintro e w5 ⟨rfl, x5'⟩
                    have x5 := x4.trans x5'
                    have cu5 := CU.out w5 x5
                    go_wp2_with (go_at_call 19; refine (cst.out _).mono ?_; rintro e w' ⟨rfl, rfl⟩)
                    refine (count_any _ _ _ ((text z0).take i) _ (sf.next x5) (by omega) (by omega)).mono ?_
                    rw [H1.out]
                    rintro e w6 ⟨rfl, x6'⟩
                    have x6 := x5.trans x6'
                    go_wp2_with fail
                    refine (count_any _ _ _ ((text z0).drop (i + X'.size)) _ (sk.next x6) (by omega) (by omega)).mono ?_
                    rw [H2.out]
                    rintro e w7 ⟨rfl, x7'⟩
                    have x7 := x6.trans x7'
                    go_wp2_with fail
                    refine (count_any _ _ _ (text z0) _ (sA.next x7) hcap (by omega)).mono ?_
                    rw [H3.out]
                    rintro e w8 ⟨rfl, x8'⟩
                    go_wp2_with fail
                    go_ret
                    exact ⟨rfl, (y2'.trans x7).trans x8'⟩
namespace fnFound
open Go.ChangeShapes Go.WideShapes Go.ChangeAt Go.RowKit
open Go.ChangeMaps (open_string shut_string)
set_option maxRecDepth 100000 in
set_option linter.unusedVariables false in
theorem laid_met (os : Os) : laidMet Tryd.prog Rows.fnFoundRow.laid ((laidWorld os).forCall (fun _ _ => 0) ⟨#[], #[.slice none 0 0, .slice none 0 0, .int .i64 0], []⟩).memory :=
  laidMet_of_run' 8 (by kernel_rfl) (by kernel_rfl)
theorem reads (os : Os) {H : Type} (enc : TypeId × Value → H) : ∃ places, DataW.whole enc Tryd.prog ((laidWorld os).forCall (fun _ _ => 0) ⟨#[], #[.slice none 0 0, .slice none 0 0, .int .i64 0], []⟩).memory Tryd.f8.params.toList Rows.fnFoundSpec.vars false (#[.slice none 0 0, .slice none 0 0, .int .i64 0] : Array Value).toList 8 = some ([.nil, .nil, .lit (.int .i64 0)], [], places) :=
  ⟨[], by kernel_rfl⟩
set_option maxRecDepth 100000 in
set_option linter.unusedVariables false in
theorem lifted (os : Os) (started : os.Started) (H : Type) (enc : TypeId × Value → H) (F : Stop.Interp) :
    ReturnsInHanded {} Tryd.checked os 8 .any ((OpenSpec.ofChange Rows.fnFoundSpec).preRow enc Tryd.prog Tryd.f8 Rows.fnFoundRow.domain false Rows.fnFoundRow.laid) (((OpenSpec.ofChange Rows.fnFoundSpec).at F).post enc Tryd.prog Tryd.f8 false true false false) := by
  obtain ⟨places, hx⟩ := reads os enc
  refine returnsInHanded_of_row (C := Tryd.checked) (s := (OpenSpec.ofChange Rows.fnFoundSpec)) own started (by kernel_rfl) Tryd.func8
    (witness_row_at (enc := enc) (C := Tryd.checked) false (laidWorld os) #[.slice none 0 0, .slice none 0 0, .int .i64 0] rfl (by kernel_rfl) (by kernel_rfl) (by kernel_rfl)
      (OpenSpec.preRow_of_cond 8 hx (by kernel_rfl) (fun k hk => by cases hk) (by kernel_rfl) (laid_met os))) ?_
  intro W base args ds gs before hval0 hW _ hkk hsz0 hL _ _
  have hsz : (DataW.weightsEach Tryd.prog (Tryd.f8.params.toList ++ (OpenSpec.ofChange Rows.fnFoundSpec).bare.plain.varTypes Tryd.prog) (ds ++ gs)).all (· ≤ reachBytes) = true := hsz0
  rw [Tryd.params8] at hsz
  have hval : ∀ (j : Nat) t v, Tryd.f8.params[j]? = some t → args[j]? = some v → Value.okWide Tryd.prog W .any base t v := hval0
  have hW' := hW
  obtain ⟨p, q, hA0, hV, rfl, hfz, hnd⟩ := hW
  have hA : DataW.TrodAll enc Tryd.prog W 0 (fun _ => true) true Tryd.f8.params.toList args.toList ds p := hA0
  rw [Tryd.params8] at hA hval
  obtain ⟨v0, vs0, d0, ds0, p0, q0, hargs, rfl, rfl, h0, r0⟩ := trodAll_cons hA
  obtain ⟨v1, vs1, d1, ds1, p1, q1, rfl, rfl, rfl, h1, r1⟩ := trodAll_cons r0
  obtain ⟨v2, vs2, d2, ds2, p2, q2, rfl, rfl, rfl, h2, r2⟩ := trodAll_cons r1
  obtain ⟨rfl, rfl, rfl⟩ := trodAll_nil r2
  obtain rfl : args = #[v0, v1, v2] := by cases args; simp_all
  obtain ⟨rfl, rfl⟩ := trodVars_none hV
  have k0 := h0
  have lt0 : ∀ x ∈ p0, x.block < W.heap.size := by obtain ⟨m, hm⟩ := k0; exact DataW.trod_lt m _ _ _ hm
  obtain ⟨A0, n0, c0, zz0, rfl, e0, g0, m0, w0, u0⟩ := open_sl Tryd.underlying23 Tryd.underlying21 (by kernel_rfl) (hval 0 23 v0 rfl rfl) h0
  have b0 : ∀ z ∈ zz0, -2147483648 ≤ z ∧ z ≤ 2147483647 := fun z hz => by simpa [Lit.wf, IntKind.min, IntKind.max, IntKind.signed, IntKind.bits] using w0 z hz
  have z0 : c0 ≤ 35184372087808 := by have := held_size (j := 0) (t := 23) (b := 4) hsz (by kernel_rfl) (by rfl) rfl Tryd.underlying23 u0; omega
  have k1 := h1
  have lt1 : ∀ x ∈ p1, x.block < W.heap.size := by obtain ⟨m, hm⟩ := k1; exact DataW.trod_lt m _ _ _ hm
  obtain ⟨A1, n1, c1, zz1, rfl, e1, g1, m1, w1, u1⟩ := open_sl Tryd.underlying23 Tryd.underlying21 (by kernel_rfl) (hval 1 23 v1 rfl rfl) h1
  have b1 : ∀ z ∈ zz1, -2147483648 ≤ z ∧ z ≤ 2147483647 := fun z hz => by simpa [Lit.wf, IntKind.min, IntKind.max, IntKind.signed, IntKind.bits] using w1 z hz
  have z1 : c1 ≤ 35184372087808 := by have := held_size (j := 1) (t := 23) (b := 4) hsz (by kernel_rfl) (by rfl) rfl Tryd.underlying23 u1; omega
  have k2 := h2
  have lt2 : ∀ x ∈ p2, x.block < W.heap.size := by obtain ⟨m, hm⟩ := k2; exact DataW.trod_lt m _ _ _ hm
  obtain ⟨a2, rfl, rfl, rfl, w2⟩ := open_int Tryd.underlying2 (hval 2 2 v2 rfl rfl) h2
  have b2 : -9223372036854775808 ≤ a2 ∧ a2 ≤ 9223372036854775807 := by simpa [Lit.wf, IntKind.min, IntKind.max, IntKind.signed, IntKind.bits] using w2
  clear hA0 hval0
  refine (fnFound_walk A0 n0 c0 zz0 A1 n1 c1 zz1 a2 W (tabs hL) e0 b0 g0 z0 e1 b1 g1 z1 b2).mono fun e W' ⟨he, bel⟩ => ?_
  subst he
  exact ⟨_, rfl, _, _, _, [], _, [], hW', trodAll_mk1 (shut_bool Tryd.underlying4 _), (trodAll_cons_mk (Below.trod laidOut (by kernel_rfl) (of_decide_eq_true (by kernel_rfl)) k0 bel.out lt0) (trodAll_cons_mk (Below.trod laidOut (by kernel_rfl) (of_decide_eq_true (by kernel_rfl)) k1 bel.out lt1) (trodAll_cons_mk (shut_int Tryd.underlying2 w2) trodAll_mk0))), rfl, bel.out.frame _, fun h => by cases h⟩
theorem row : Rows.FnFoundSaid :=
  OpenClaim.holds_of_cond 8 Tryd.f8 rfl rfl rfl rfl rfl rfl rfl ⟨rfl, rfl, rfl, rfl, rfl⟩ rfl rfl rfl rfl rfl (by kernel_rfl) Tryd.func8 (by kernel_rfl)
    (of_decide_eq_true (by kernel_rfl)) (by unfold Func.isWrapper; first | (rw [if_pos (by decide +kernel)]; kernel_rfl) | (rw [if_neg (by decide +kernel)]; exact ⟨rfl, rfl⟩))
    (fun os started H enc _ F => by rw [OpenClaim.pre_eq_preRow]; exact lifted os started H enc F)
theorem plain (f : FuncId) (fn : Func) (hf : Tryd.pinned.checked.prog.funcNamed Rows.fnFoundRow.func = some f) (hfn : Tryd.pinned.checked.prog.funcs[f]? = some fn) :
    false = Tryd.pinned.checked.prog.looks [] ∧ ∀ (j : Nat) t, fn.params[j]? = some t → Tryd.pinned.checked.prog.wantsStandIn t = false := by
  obtain rfl : f = 8 := Option.some.inj ((show Tryd.prog.funcNamed Rows.fnFoundRow.func = some 8 by kernel_rfl).symm.trans hf) |>.symm
  obtain rfl : fn = Tryd.f8 := (Option.some.inj (Tryd.func8.symm.trans hfn)).symm
  refine ⟨by kernel_rfl, fun j t ht => ?_⟩
  rw [Tryd.params8] at ht
  have hm := Array.mem_of_getElem? ht
  have hor : t = 2 ∨ t = 23 := by simp at hm; first | exact hm.symm | (rcases hm with h | h <;> simp [h]) | (rcases hm with h | h | h <;> simp [h]) | (rcases hm with h | h | h | h <;> simp [h])
  rcases hor with rfl | rfl
  · exact (show Tryd.prog.wantsStandIn 2 = false by kernel_rfl)
  · exact (show Tryd.prog.wantsStandIn 23 = false by kernel_rfl)
theorem said : Rows.FnFoundCardSaid :=
  Claim7.holds_tied_plain_at .later [] _ _ _ _ row (fun _ h => by cases h) (by kernel_rfl) (fun _ h => by cases h) fnFound_row_tie rfl ⟨rfl, rfl⟩ (by kernel_rfl) rfl plain (by kernel_rfl)
end fnFound
end Go.Proofs.YtdhofjhmbdeibaaDoor
