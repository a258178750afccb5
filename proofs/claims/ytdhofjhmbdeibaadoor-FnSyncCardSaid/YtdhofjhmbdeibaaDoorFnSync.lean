/- FnSync: in a text of good runes, the next byte that can be a first one is at most three bytes away, or the text ends there, and what is left from it on is valid. The tables are those that the program lays. -/
import Derived.Test.YtdhofjhmbdeibaaDoorFrame
import Derived.Test.YtdhofjhmbdeibaaDoorDecodeU
import Derived.Test.YtdhofjhmbdeibaaDoorValidU
import Derived.Test.YtdhofjhmbdeibaaDoorCount
import Derived.Test.YtdhofjhmbdeibaaDoorStart
import Derived.Test.YtdhofjhmbdeibaaDoorText
import Derived.Test.YtdhofjhmbdeibaaDoorPlainF
import Derived.Deep.RegionHeld3
namespace Go.Proofs.YtdhofjhmbdeibaaDoor
open Go.RowKit Go.Lib
set_option linter.unusedVariables false
set_option maxRecDepth 100000 in
set_option maxHeartbeats 4000000 in
theorem fnSync_walk (A0 : Option Addr) (n0 c0 : Nat) (z0 : List Int) (a1 : Int) (w : World) (hT : Tabs w) (e0 : Sl .i32 w A0 n0 z0) (_b0 : ∀ z ∈ z0, -2147483648 ≤ z ∧ z ≤ 2147483647) (g0 : n0 ≤ c0) (m0 : c0 ≤ 35184372087808) (b1 : -9223372036854775808 ≤ a1 ∧ a1 ≤ 9223372036854775807) :
    Calls Tryd.prog 9 #[.slice A0 n0 c0, .int .i64 a1] w fun e w' => e = .returned (.bool true) ∧ Nx w w' := by
  have LX := Lib.hid e0.len
  clear _b0
  go_enter Tryd.func9, Tryd.ntmps9
  go_wp2
  go_loop [5] (fun i => ∃ k : Nat, k ≤ n0 ∧ i = .int .i64 k ∧ Hid (∀ z ∈ z0.take k, goodB z = true)) (fun i => n0 - (RowKit.intOf i).toNat)
  case atStart => exact ⟨0, Nat.zero_le _, rfl, by simp [Hid]⟩
  case round =>
    obtain ⟨k, hk, rfl, hgs⟩ := hrel
    by_cases hlt : k < n0
    · obtain ⟨b, off, u, rfl, hb, q1, hu⟩ := e0.at_ hlt
      by_cases hg : goodB u = true
      · have hs : Hid (∀ z ∈ z0.take (k + 1), goodB z = true) := good_snoc (by rw [LX.out]; exact hlt) hgs.out (by rw [hu.out]; exact hg)
        go_wp2_with (go_at_call 17; refine (good_any _ _).mono ?_; rintro e w' ⟨rfl, rfl⟩)
        go_round
        case rel => exact ⟨k + 1, by omega, by go_num, hs⟩
        case measure => simp [RowKit.intOf]; omega
      · have hg' : goodB u = false := by simpa using hg
        clear hg
        go_wp2_with (go_at_call 17; refine (good_any _ _).mono ?_; rintro e w' ⟨rfl, rfl⟩)
        go_ret
        exact ⟨rfl, Nx.refl _⟩
    · have hall : Hid (∀ z ∈ z0, goodB z = true) := good_all LX.out (by omega) hgs.out
      clear hgs
      obtain rfl : k = n0 := by omega
      by_cases hi0 : a1 < 0
      · obtain ⟨X, hX⟩ : ∃ X, Hid (strOf (text z0) = X) := ⟨_, rfl⟩
        have hXs : X.size ≤ 4 * k := by have := (text_length z0).2; rw [← hX.out, strOf_size]; rw [LX.out] at this; omega
        have hXd : Hid (X.data.toList = text z0) := by show _ = _; rw [← hX.out, strOf_data]
        have hXl : Hid ((text z0).length = X.size) := by show _ = _; rw [← hX.out, strOf_size]
        have ct := Lib.hid fun W hx => text_any A0 k c0 z0 W hx (by omega)
        rw [hX.out] at ct
        have hcv := fun W => run_str_bytes (P := Tryd.prog) 9 30 5 Tryd.underlying9 Tryd.underlying30 Tryd.underlying5 X W
        go_wp2_with fail
        refine (ct.out _ e0).mono ?_
        rintro e w1 ⟨rfl, x1⟩
        have sb := by_str_bytes 5 X w1
        have xb := nx_str_bytes 5 X w1
        have hcap := grownCap_ge w1 X.size 0 5
        rw [hXd.out] at sb
        obtain ⟨C, hC⟩ : ∃ C, grownCap w1 X.size 0 5 = C := ⟨_, rfl⟩
        rw [hC] at hcap
        obtain ⟨w2, hw2⟩ : ∃ w2, (w1.alloc (bytesObj 5 X w1)).drew = w2 := ⟨_, rfl⟩
        rw [hw2] at sb xb
        have hcv1 := hcv w1
        rw [hw2, hC] at hcv1
        clear hcv hw2 hC
        have y2 := x1.trans xb
        obtain ⟨P0, hP0⟩ : ∃ P0, Hid ((some ⟨w1.heap.size, 0, none⟩ : Option Addr) = P0) := ⟨_, rfl⟩
        rw [hP0.out] at hcv1 sb
        go_wp2_with fail
        go_ret
        exact ⟨rfl, y2⟩
      · have zi0 : decide (a1 < 0) = false := by simp; omega
        obtain ⟨i, rfl⟩ : ∃ i : Nat, a1 = (i : Int) := ⟨a1.toNat, by omega⟩
        obtain ⟨X, hX⟩ : ∃ X, Hid (strOf (text z0) = X) := ⟨_, rfl⟩
        have hXs : X.size ≤ 4 * k := by have := (text_length z0).2; rw [← hX.out, strOf_size]; rw [LX.out] at this; omega
        have hXd : Hid (X.data.toList = text z0) := by show _ = _; rw [← hX.out, strOf_data]
        have hXl : Hid ((text z0).length = X.size) := by show _ = _; rw [← hX.out, strOf_size]
        have ct := Lib.hid fun W hx => text_any A0 k c0 z0 W hx (by omega)
        rw [hX.out] at ct
        have hcv := fun W => run_str_bytes (P := Tryd.prog) 9 30 5 Tryd.underlying9 Tryd.underlying30 Tryd.underlying5 X W
        go_wp2_with fail
        refine (ct.out _ e0).mono ?_
        rintro e w1 ⟨rfl, x1⟩
        have sb := by_str_bytes 5 X w1
        have xb := nx_str_bytes 5 X w1
        have hcap := grownCap_ge w1 X.size 0 5
        rw [hXd.out] at sb
        obtain ⟨C, hC⟩ : ∃ C, grownCap w1 X.size 0 5 = C := ⟨_, rfl⟩
        rw [hC] at hcap
        obtain ⟨w2, hw2⟩ : ∃ w2, (w1.alloc (bytesObj 5 X w1)).drew = w2 := ⟨_, rfl⟩
        rw [hw2] at sb xb
        have hcv1 := hcv w1
        rw [hw2, hC] at hcv1
        clear hcv hw2 hC
        have y2 := x1.trans xb
        obtain ⟨P0, hP0⟩ : ∃ P0, Hid ((some ⟨w1.heap.size, 0, none⟩ : Option Addr) = P0) := ⟨_, rfl⟩
        rw [hP0.out] at hcv1 sb
        by_cases hi1 : X.size < i
        · have zi1 : (X.size : Int) < (i : Int) := by omega
          go_wp2_with fail
          go_ret
          exact ⟨rfl, y2⟩
        · have zi1 : decide ((X.size : Int) < (i : Int)) = false := by simp; omega
          have zi1n : decide (X.size < i) = false := by simp; omega
          have hil : i ≤ X.size := by omega
          clear hi0 hi1
          go_wp2_with fail
          clear hcv1
          go_loopw [7] (fun v wr => ∃ j : Nat, i ≤ j ∧ j ≤ X.size ∧ v = .int .i64 j ∧ w2 = wr ∧ Hid (∀ q, i ≤ q → q < j → ((text z0).getD q 0).toNat / 64 = 2)) (fun v _ => X.size - (RowKit.intOf v).toNat)
          case atStart => exact ⟨i, Nat.le_refl _, hil, rfl, rfl, fun q h1 h2 => by omega⟩
          case round =>
            obtain ⟨j, hij, hj, rfl, rfl, hco⟩ := hrel
            by_cases hlt : j < X.size
            · obtain ⟨b, off, u, hA, hb, q1, u0, u1, hu⟩ := sb.at_ hlt
              subst hA
              have hsb := start_byte ((text z0).getD j 0)
              rw [hu.out] at hsb
              cases hB : startB u with
              | false =>
                have hfr : ((text z0).getD j 0).toNat / 64 = 2 := by rw [hB] at hsb; have := of_decide_eq_false hsb.symm; omega
                have hco2 : Hid (∀ q, i ≤ q → q < j + 1 → ((text z0).getD q 0).toNat / 64 = 2) := fun q h1 h2 => by
                  by_cases e : q = j
                  · rw [e]; exact hfr
                  · exact hco.out q h1 (by omega)
                clear hfr hsb
                go_wp2_with (go_at_call 19; refine (start_any u _ u0 (by omega)).mono ?_; rintro e w' ⟨rfl, rfl⟩)
                go_roundw
                case rel => exact ⟨j + 1, by omega, by omega, by go_num, by trivial, hco2⟩
                case measure => simp [RowKit.intOf]; omega
              | true =>
                have hfr : ((text z0).getD j 0).toNat / 64 ≠ 2 := by rw [hB] at hsb; exact of_decide_eq_true hsb.symm
                have hf := Lib.hid (fresh_drop (l := text z0) (by rw [hXl.out]; exact hlt) hfr)
                clear hfr hsb
                go_wp2_with (go_at_call 19; refine (start_any u _ u0 (by omega)).mono ?_; rintro e w' ⟨rfl, rfl⟩)
                have hv : validB (text z0) = true := validB_text' z0 hall.out
                obtain ⟨v1, v2, v3⟩ := fresh_cut hv hf.out
                have tc : cnt (text z0) = k := by rw [text_cnt hall.out, LX.out]
                rw [tc] at v3
                obtain ⟨c1, hc1⟩ : ∃ c, cnt ((text z0).take j) = c := ⟨_, rfl⟩
                obtain ⟨c2, hc2⟩ : ∃ c, cnt ((text z0).drop j) = c := ⟨_, rfl⟩
                rw [hc1, hc2] at v3
                have hj3 : j ≤ i + 3 := near_start hall.out i j hij (by rw [hXl.out]; exact hj) hco.out
                have sf := By.upto (j := j) sb (by omega)
                have st := By.from_ (i := j) (cap := C) sb (by omega) hcap
                have hup := fun W => run_upto (P := Tryd.prog) 30 5 Tryd.underlying30 (fun _ => by kernel_rfl) (some ⟨b, off, none⟩) X.size C .i64 (j : Int) j rfl (by omega) W
                have hcut := fun W => run_cut (P := Tryd.prog) 30 5 Tryd.underlying30 (fun _ => by kernel_rfl) (some ⟨b, off, none⟩) X.size C .i64 (j : Int) j rfl (by omega) W
                have b1 : j ≤ C := by omega
                have b2 : X.size - j ≤ C - j := by omega
                have b3 : X.size ≤ 9223372036854775806 := by omega
                have ca := Lib.hid fun W (h : Nx w2 W) => nx_mono h (valid_any (cutA (some ⟨b, off, none⟩) C j) (X.size - j) (C - j) ((text z0).drop j) W (hT.next (y2.trans h)) (st.next h) b2 (by omega))
                have cb := Lib.hid fun W (h : Nx w2 W) => nx_mono h (valid_any (some ⟨b, off, none⟩) j C ((text z0).take j) W (hT.next (y2.trans h)) (sf.next h) b1 (by omega))
                have cc := Lib.hid fun W (h : Nx w2 W) => nx_mono h (count_any (some ⟨b, off, none⟩) j C ((text z0).take j) W (sf.next h) b1 (by omega))
                have cd := Lib.hid fun W (h : Nx w2 W) => nx_mono h (count_any (cutA (some ⟨b, off, none⟩) C j) (X.size - j) (C - j) ((text z0).drop j) W (st.next h) b2 (by omega))
                have ce := Lib.hid fun W (h : Nx w2 W) => nx_mono h (count_any (some ⟨b, off, none⟩) X.size C (text z0) W (sb.next h) hcap b3)
                rw [v2] at ca
                rw [v1] at cb
                rw [hc1] at cc
                rw [hc2] at cd
                rw [tc] at ce
                have zsum : (((c1 : Int) + (c2 : Int)) == (k : Int)) = true := by simp; omega
                have i1 : (0 : Int) ≤ (j : Int) := by omega
                have i2 : (j : Int) ≤ (X.size : Int) := by omega
                have i3 : (j : Int) ≤ (C : Int) := by omega
                have cb1 : c1 ≤ k := by omega
                have cb2 : c2 ≤ k := by omega
                have zj : (j : Int) ≤ (i : Int) + 3 := by omega
                have wr1 : IntKind.i64.wrap ((i : Int) + 3) = (i : Int) + 3 := IntWalk.i64_in _ ⟨by omega, by omega⟩
                have wr2 : IntKind.i64.wrap ((c1 : Int) + (c2 : Int)) = (c1 : Int) + (c2 : Int) := IntWalk.i64_in _ ⟨by omega, by omega⟩
                have zkk : (decide ((0 : Int) < (k : Int)) == decide ((0 : Int) < (k : Int))) = true := by simp
                clear hv v1 v2 v3 tc hc1 hc2 hj3 hco hf
                go_region_held3 (fun w' => Nx w2 w') (first | exact (Nx.refl _).drew | assumption) (first | (go_at_call_of 20 (Value.slice (cutA (some ⟨b, off, none⟩) C j) (X.size - j) (C - j)); refine (ca.out _ (by first | exact (Nx.refl _).drew | assumption)).mono ?_; rintro e w5 ⟨rfl, x5⟩) | (go_at_call_of 20 (Value.slice (some ⟨b, off, none⟩) j C); refine (cb.out _ (by first | exact (Nx.refl _).drew | assumption)).mono ?_; rintro e w6 ⟨rfl, x6⟩) | (go_at_call_of 30 (Value.slice (some ⟨b, off, none⟩) j C); refine (cc.out _ (by first | exact (Nx.refl _).drew | assumption)).mono ?_; rintro e w7 ⟨rfl, x7⟩) | (go_at_call_of 30 (Value.slice (cutA (some ⟨b, off, none⟩) C j) (X.size - j) (C - j)); refine (cd.out _ (by first | exact (Nx.refl _).drew | assumption)).mono ?_; rintro e w8 ⟨rfl, x8⟩) | (go_at_call_of 30 (Value.slice (some ⟨b, off, none⟩) X.size C); refine (ce.out _ (by first | exact (Nx.refl _).drew | assumption)).mono ?_; rintro e w9 ⟨rfl, x9⟩))
                all_goals go_wp2_with fail
                all_goals go_ret
                all_goals exact ⟨rfl, y2.trans (by assumption)⟩
            · have hf : Hid (fresh ((text z0).drop j)) := Or.inl (List.drop_eq_nil_of_le (by rw [hXl.out]; omega))
              go_wp2_with fail
              have hv : validB (text z0) = true := validB_text' z0 hall.out
              obtain ⟨v1, v2, v3⟩ := fresh_cut hv hf.out
              have tc : cnt (text z0) = k := by rw [text_cnt hall.out, LX.out]
              rw [tc] at v3
              obtain ⟨c1, hc1⟩ : ∃ c, cnt ((text z0).take j) = c := ⟨_, rfl⟩
              obtain ⟨c2, hc2⟩ : ∃ c, cnt ((text z0).drop j) = c := ⟨_, rfl⟩
              rw [hc1, hc2] at v3
              have hj3 : j ≤ i + 3 := near_start hall.out i j hij (by rw [hXl.out]; exact hj) hco.out
              have sf := By.upto (j := j) sb (by omega)
              have st := By.from_ (i := j) (cap := C) sb (by omega) hcap
              have hup := fun W => run_upto (P := Tryd.prog) 30 5 Tryd.underlying30 (fun _ => by kernel_rfl) P0 X.size C .i64 (j : Int) j rfl (by omega) W
              have hcut := fun W => run_cut (P := Tryd.prog) 30 5 Tryd.underlying30 (fun _ => by kernel_rfl) P0 X.size C .i64 (j : Int) j rfl (by omega) W
              have b1 : j ≤ C := by omega
              have b2 : X.size - j ≤ C - j := by omega
              have b3 : X.size ≤ 9223372036854775806 := by omega
              have ca := Lib.hid fun W (h : Nx w2 W) => nx_mono h (valid_any (cutA P0 C j) (X.size - j) (C - j) ((text z0).drop j) W (hT.next (y2.trans h)) (st.next h) b2 (by omega))
              have cb := Lib.hid fun W (h : Nx w2 W) => nx_mono h (valid_any P0 j C ((text z0).take j) W (hT.next (y2.trans h)) (sf.next h) b1 (by omega))
              have cc := Lib.hid fun W (h : Nx w2 W) => nx_mono h (count_any P0 j C ((text z0).take j) W (sf.next h) b1 (by omega))
              have cd := Lib.hid fun W (h : Nx w2 W) => nx_mono h (count_any (cutA P0 C j) (X.size - j) (C - j) ((text z0).drop j) W (st.next h) b2 (by omega))
              have ce := Lib.hid fun W (h : Nx w2 W) => nx_mono h (count_any P0 X.size C (text z0) W (sb.next h) hcap b3)
              rw [v2] at ca
              rw [v1] at cb
              rw [hc1] at cc
              rw [hc2] at cd
              rw [tc] at ce
              have zsum : (((c1 : Int) + (c2 : Int)) == (k : Int)) = true := by simp; omega
              have i1 : (0 : Int) ≤ (j : Int) := by omega
              have i2 : (j : Int) ≤ (X.size : Int) := by omega
              have i3 : (j : Int) ≤ (C : Int) := by omega
              have cb1 : c1 ≤ k := by omega
              have cb2 : c2 ≤ k := by omega
              have zj : (j : Int) ≤ (i : Int) + 3 := by omega
              have wr1 : IntKind.i64.wrap ((i : Int) + 3) = (i : Int) + 3 := IntWalk.i64_in _ ⟨by omega, by omega⟩
              have wr2 : IntKind.i64.wrap ((c1 : Int) + (c2 : Int)) = (c1 : Int) + (c2 : Int) := IntWalk.i64_in _ ⟨by omega, by omega⟩
              have zkk : (decide ((0 : Int) < (k : Int)) == decide ((0 : Int) < (k : Int))) = true := by simp
              clear hv v1 v2 v3 tc hc1 hc2 hj3 hco hf
              go_region_held3 (fun w' => Nx w2 w') (first | exact (Nx.refl _).drew | assumption) (first | (go_at_call_of 20 (Value.slice (cutA P0 C j) (X.size - j) (C - j)); refine (ca.out _ (by first | exact (Nx.refl _).drew | assumption)).mono ?_; rintro e w5 ⟨rfl, x5⟩) | (go_at_call_of 20 (Value.slice P0 j C); refine (cb.out _ (by first | exact (Nx.refl _).drew | assumption)).mono ?_; rintro e w6 ⟨rfl, x6⟩) | (go_at_call_of 30 (Value.slice P0 j C); refine (cc.out _ (by first | exact (Nx.refl _).drew | assumption)).mono ?_; rintro e w7 ⟨rfl, x7⟩) | (go_at_call_of 30 (Value.slice (cutA P0 C j) (X.size - j) (C - j)); refine (cd.out _ (by first | exact (Nx.refl _).drew | assumption)).mono ?_; rintro e w8 ⟨rfl, x8⟩) | (go_at_call_of 30 (Value.slice P0 X.size C); refine (ce.out _ (by first | exact (Nx.refl _).drew | assumption)).mono ?_; rintro e w9 ⟨rfl, x9⟩))
              all_goals go_wp2_with fail
              all_goals go_ret
              all_goals exact ⟨rfl, y2.trans (by assumption)⟩
namespace fnSync
open Go.ChangeShapes Go.WideShapes Go.ChangeAt Go.RowKit
open Go.ChangeMaps (open_string shut_string)
set_option maxRecDepth 100000 in
set_option linter.unusedVariables false in
theorem laid_met (os : Os) : laidMet Tryd.prog Rows.fnSyncRow.laid ((laidWorld os).forCall (fun _ _ => 0) ⟨#[], #[.slice none 0 0, .int .i64 0], []⟩).memory :=
  laidMet_of_run' 8 (by kernel_rfl) (by kernel_rfl)
theorem reads (os : Os) {H : Type} (enc : TypeId × Value → H) : ∃ places, DataW.whole enc Tryd.prog ((laidWorld os).forCall (fun _ _ => 0) ⟨#[], #[.slice none 0 0, .int .i64 0], []⟩).memory Tryd.f9.params.toList Rows.fnSyncSpec.vars false (#[.slice none 0 0, .int .i64 0] : Array Value).toList 8 = some ([.nil, .lit (.int .i64 0)], [], places) :=
  ⟨[], by kernel_rfl⟩
set_option maxRecDepth 100000 in
set_option linter.unusedVariables false in
theorem lifted (os : Os) (started : os.Started) (H : Type) (enc : TypeId × Value → H) (F : Stop.Interp) :
    ReturnsInHanded {} Tryd.checked os 9 .any ((OpenSpec.ofChange Rows.fnSyncSpec).preRow enc Tryd.prog Tryd.f9 Rows.fnSyncRow.domain false Rows.fnSyncRow.laid) (((OpenSpec.ofChange Rows.fnSyncSpec).at F).post enc Tryd.prog Tryd.f9 false true false false) := by
  obtain ⟨places, hx⟩ := reads os enc
  refine returnsInHanded_of_row (C := Tryd.checked) (s := (OpenSpec.ofChange Rows.fnSyncSpec)) own started (by kernel_rfl) Tryd.func9
    (witness_row_at (enc := enc) (C := Tryd.checked) false (laidWorld os) #[.slice none 0 0, .int .i64 0] rfl (by kernel_rfl) (by kernel_rfl) (by kernel_rfl)
      (OpenSpec.preRow_of_cond 8 hx (by kernel_rfl) (fun k hk => by cases hk) (by kernel_rfl) (laid_met os))) ?_
  intro W base args ds gs before hval0 hW _ hkk hsz0 hL _ _
  have hsz : (DataW.weightsEach Tryd.prog (Tryd.f9.params.toList ++ (OpenSpec.ofChange Rows.fnSyncSpec).bare.plain.varTypes Tryd.prog) (ds ++ gs)).all (· ≤ reachBytes) = true := hsz0
  rw [Tryd.params9] at hsz
  have hval : ∀ (j : Nat) t v, Tryd.f9.params[j]? = some t → args[j]? = some v → Value.okWide Tryd.prog W .any base t v := hval0
  have hW' := hW
  obtain ⟨p, q, hA0, hV, rfl, hfz, hnd⟩ := hW
  have hA : DataW.TrodAll enc Tryd.prog W 0 (fun _ => true) true Tryd.f9.params.toList args.toList ds p := hA0
  rw [Tryd.params9] at hA hval
  obtain ⟨v0, vs0, d0, ds0, p0, q0, hargs, rfl, rfl, h0, r0⟩ := trodAll_cons hA
  obtain ⟨v1, vs1, d1, ds1, p1, q1, rfl, rfl, rfl, h1, r1⟩ := trodAll_cons r0
  obtain ⟨rfl, rfl, rfl⟩ := trodAll_nil r1
  obtain rfl : args = #[v0, v1] := by cases args; simp_all
  obtain ⟨rfl, rfl⟩ := trodVars_none hV
  have k0 := h0
  have lt0 : ∀ x ∈ p0, x.block < W.heap.size := by obtain ⟨m, hm⟩ := k0; exact DataW.trod_lt m _ _ _ hm
  obtain ⟨A0, n0, c0, zz0, rfl, e0, g0, m0, w0, u0⟩ := open_sl Tryd.underlying23 Tryd.underlying21 (by kernel_rfl) (hval 0 23 v0 rfl rfl) h0
  have b0 : ∀ z ∈ zz0, -2147483648 ≤ z ∧ z ≤ 2147483647 := fun z hz => by simpa [Lit.wf, IntKind.min, IntKind.max, IntKind.signed, IntKind.bits] using w0 z hz
  have z0 : c0 ≤ 35184372087808 := by have := held_size (j := 0) (t := 23) (b := 4) hsz (by kernel_rfl) (by rfl) rfl Tryd.underlying23 u0; omega
  have k1 := h1
  have lt1 : ∀ x ∈ p1, x.block < W.heap.size := by obtain ⟨m, hm⟩ := k1; exact DataW.trod_lt m _ _ _ hm
  obtain ⟨a1, rfl, rfl, rfl, w1⟩ := open_int Tryd.underlying2 (hval 1 2 v1 rfl rfl) h1
  have b1 : -9223372036854775808 ≤ a1 ∧ a1 ≤ 9223372036854775807 := by simpa [Lit.wf, IntKind.min, IntKind.max, IntKind.signed, IntKind.bits] using w1
  clear hA0 hval0
  refine (fnSync_walk A0 n0 c0 zz0 a1 W (tabs hL) e0 b0 g0 z0 b1).mono fun e W' ⟨he, bel⟩ => ?_
  subst he
  exact ⟨_, rfl, _, _, _, [], _, [], hW', trodAll_mk1 (shut_bool Tryd.underlying4 _), (trodAll_cons_mk (Below.trod laidOut (by kernel_rfl) (of_decide_eq_true (by kernel_rfl)) k0 bel.out lt0) (trodAll_cons_mk (shut_int Tryd.underlying2 w1) trodAll_mk0)), rfl, bel.out.frame _, fun h => by cases h⟩
theorem row : Rows.FnSyncSaid :=
  OpenClaim.holds_of_cond 9 Tryd.f9 rfl rfl rfl rfl rfl rfl rfl ⟨rfl, rfl, rfl, rfl, rfl⟩ rfl rfl rfl rfl rfl (by kernel_rfl) Tryd.func9 (by kernel_rfl)
    (of_decide_eq_true (by kernel_rfl)) (by unfold Func.isWrapper; first | (rw [if_pos (by decide +kernel)]; kernel_rfl) | (rw [if_neg (by decide +kernel)]; exact ⟨rfl, rfl⟩))
    (fun os started H enc _ F => by rw [OpenClaim.pre_eq_preRow]; exact lifted os started H enc F)
theorem plain (f : FuncId) (fn : Func) (hf : Tryd.pinned.checked.prog.funcNamed Rows.fnSyncRow.func = some f) (hfn : Tryd.pinned.checked.prog.funcs[f]? = some fn) :
    false = Tryd.pinned.checked.prog.looks [] ∧ ∀ (j : Nat) t, fn.params[j]? = some t → Tryd.pinned.checked.prog.wantsStandIn t = false := by
  obtain rfl : f = 9 := Option.some.inj ((show Tryd.prog.funcNamed Rows.fnSyncRow.func = some 9 by kernel_rfl).symm.trans hf) |>.symm
  obtain rfl : fn = Tryd.f9 := (Option.some.inj (Tryd.func9.symm.trans hfn)).symm
  refine ⟨by kernel_rfl, fun j t ht => ?_⟩
  rw [Tryd.params9] at ht
  have hm := Array.mem_of_getElem? ht
  have hor : t = 2 ∨ t = 23 := by simp at hm; first | exact hm.symm | (rcases hm with h | h <;> simp [h]) | (rcases hm with h | h | h <;> simp [h]) | (rcases hm with h | h | h | h <;> simp [h])
  rcases hor with rfl | rfl
  · exact (show Tryd.prog.wantsStandIn 2 = false by kernel_rfl)
  · exact (show Tryd.prog.wantsStandIn 23 = false by kernel_rfl)
theorem said : Rows.FnSyncCardSaid :=
  Claim7.holds_tied_plain_at .later [] _ _ _ _ row (fun _ h => by cases h) (by kernel_rfl) (fun _ h => by cases h) fnSync_row_tie rfl ⟨rfl, rfl⟩ (by kernel_rfl) rfl plain (by kernel_rfl)
end fnSync
end Go.Proofs.YtdhofjhmbdeibaaDoor
