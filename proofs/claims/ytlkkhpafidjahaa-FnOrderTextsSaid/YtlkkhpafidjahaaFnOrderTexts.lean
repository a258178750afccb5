/- FnOrderTexts: texts of good runes are ordered byte by byte as their lists of runes are, rune by rune. No condition. -/
import Derived.Test.YtlkkhpafidjahaaFrame
import Derived.Test.YtlkkhpafidjahaaGood
import Derived.Test.YtlkkhpafidjahaaConv
import Derived.Test.YtlkkhpafidjahaaOrder
import Derived.Deep.QuietTactic
import Derived.BigQuiet
namespace Go.Proofs.Ytlkkhpafidjahaa
open Go.RowKit Go.Lib Go.Op
theorem order_str {a b : List Int} {p : Bool} {P : Prop} (X Y : ByteArray) (hX : strOf (text a) = X) (hY : strOf (text b) = Y) (h : bytesLess (text a) (text b) = p ∧ (text a = text b ↔ P)) [Decidable P] :
    bytesLess X.toList Y.toList = p ∧ (X.toList == Y.toList) = decide P := by
  have ex : X.toList = text a := by rw [← hX]; exact ByteArray.toList_mk _
  have ey : Y.toList = text b := by rw [← hY]; exact ByteArray.toList_mk _
  rw [ex, ey]
  refine ⟨h.1, ?_⟩
  rw [Bool.eq_iff_iff, beq_iff_eq, decide_eq_true_eq]
  exact h.2
set_option maxRecDepth 100000 in
set_option maxHeartbeats 2000000 in
theorem fnOrderTexts_walk (A0 : Option Addr) (n0 c0 : Nat) (z0 : List Int) (A1 : Option Addr) (n1 c1 : Nat) (z1 : List Int) (w : World) (e0 : Sl .i32 w A0 n0 z0) (_b0 : ∀ z ∈ z0, -2147483648 ≤ z ∧ z ≤ 2147483647) (_g0 : n0 ≤ c0) (m0 : c0 ≤ 35184372087808)
    (e1 : Sl .i32 w A1 n1 z1) (_b1 : ∀ z ∈ z1, -2147483648 ≤ z ∧ z ≤ 2147483647) (_g1 : n1 ≤ c1) (m1 : c1 ≤ 35184372087808) :
    Calls Try.prog 3 #[.slice A0 n0 c0, .slice A1 n1 c1] w fun e w' => e = .returned (.bool true) ∧ Nx w w' := by
  have LX := Lib.hid e0.len
  have LY := Lib.hid e1.len
  clear _b0 _b1
  go_enter Try.func3, Try.ntmps3
  go_wp2
  go_loop [5] (fun i => ∃ k : Nat, k ≤ n0 ∧ i = .int .i64 k ∧ Hid (∀ z ∈ z0.take k, goodB z = true)) (fun i => n0 - (intOf i).toNat)
  case atStart => exact ⟨0, Nat.zero_le _, rfl, by simp [Hid]⟩
  case round =>
    obtain ⟨k, hk, rfl, hgs⟩ := hrel
    by_cases hlt : k < n0
    · obtain ⟨b, off, u, rfl, hb, q1, hu⟩ := e0.at_ hlt
      by_cases hg : goodB u = true
      · have hs : Hid (∀ z ∈ z0.take (k + 1), goodB z = true) := good_snoc (by rw [LX.out]; exact hlt) hgs.out (by rw [hu.out]; exact hg)
        go_wp2_with (go_at_call 12; refine (good_any _ _).mono ?_; rintro e w' ⟨rfl, rfl⟩)
        go_round
        case rel => exact ⟨k + 1, by omega, by go_num, hs⟩
        case measure => simp [intOf]; omega
      · have hg' : goodB u = false := by simpa using hg
        clear hg
        go_wp2_with (go_at_call 12; refine (good_any _ _).mono ?_; rintro e w' ⟨rfl, rfl⟩)
        go_ret
        exact ⟨rfl, Nx.refl _⟩
    · have hall : Hid (∀ z ∈ z0, goodB z = true) := good_all LX.out (by omega) hgs.out
      clear hgs
      obtain rfl : k = n0 := by omega
      go_wp2_with fail
      go_loop [6] (fun i => ∃ j : Nat, j ≤ n1 ∧ i = .int .i64 j ∧ Hid (∀ z ∈ z1.take j, goodB z = true)) (fun i => n1 - (intOf i).toNat)
      case atStart => exact ⟨0, Nat.zero_le _, rfl, by simp [Hid]⟩
      case round =>
        obtain ⟨j, hj, rfl, hgs⟩ := hrel
        by_cases hlt1 : j < n1
        · obtain ⟨b, off, u, rfl, hb, q1, hu⟩ := e1.at_ hlt1
          by_cases hg : goodB u = true
          · have hs : Hid (∀ z ∈ z1.take (j + 1), goodB z = true) := good_snoc (by rw [LY.out]; exact hlt1) hgs.out (by rw [hu.out]; exact hg)
            go_wp2_with (go_at_call 12; refine (good_any _ _).mono ?_; rintro e w' ⟨rfl, rfl⟩)
            go_round
            case rel => exact ⟨j + 1, by omega, by go_num, hs⟩
            case measure => simp [intOf]; omega
          · have hg' : goodB u = false := by simpa using hg
            clear hg
            go_wp2_with (go_at_call 12; refine (good_any _ _).mono ?_; rintro e w' ⟨rfl, rfl⟩)
            go_ret
            exact ⟨rfl, Nx.refl _⟩
        · have hall1 : Hid (∀ z ∈ z1, goodB z = true) := good_all LY.out (by omega) hgs.out
          clear hgs
          obtain rfl : j = n1 := by omega
          go_wp2_with fail
          go_loopw [7] (fun v wr => ∃ m : Nat, m ≤ k ∧ m ≤ j ∧ v = .int .i64 m ∧ Hid (z0.take m = z1.take m) ∧ Nx w wr) (fun v _ => k - (intOf v).toNat)
          case atStart => exact ⟨0, Nat.zero_le _, Nat.zero_le _, rfl, by simp [Hid], Nx.refl _⟩
          case round =>
            obtain ⟨m, hmk, hmj, rfl, hxy, hnx⟩ := hrel
            obtain ⟨X, hX⟩ : ∃ X, Hid (strOf (text z0) = X) := ⟨_, rfl⟩
            obtain ⟨Y, hY⟩ : ∃ Y, Hid (strOf (text z1) = Y) := ⟨_, rfl⟩
            have cx := Lib.hid fun w hx => stringOf_any A0 k c0 z0 w hx
            have cy := Lib.hid fun w hx => stringOf_any A1 j c1 z1 w hx
            rw [hX.out] at cx
            rw [hY.out] at cy
            have fin := Lib.hid fun hd => order_str X Y hX.out hY.out (order_text z0 z1 m hall.out hall1.out (by rw [LX.out]; exact hmk) (by rw [LY.out]; exact hmj) hxy.out hd)
            rw [LX.out, LY.out] at fin
            by_cases hA : m < k
            · by_cases hB : m < j
              · obtain ⟨b, off, u, rfl, hb, q1, hu⟩ := (e0.next hnx).at_ hA
                obtain ⟨b', off', v, rfl, hb', q2, hv⟩ := (e1.next hnx).at_ hB
                by_cases he : u = v
                · have hs : Hid (z0.take (m + 1) = z1.take (m + 1)) := take_step 0 (by rw [LX.out]; exact hA) (by rw [LY.out]; exact hB) hxy.out (by rw [hu.out, hv.out, he])
                  subst he
                  have he' : (u == u) = true := by simp
                  go_wp2_with fail
                  go_quiet (fail)
                  go_wp2_with fail
                  go_roundw
                  case rel => exact ⟨m + 1, by omega, by omega, by go_num, hs, hnx.drewN _⟩
                  case measure => simp [intOf]; omega
                · have he' : (u == v) = false := by simp [he]
                  have hmn : ((m : Int) == (k : Int)) = false := by simp; omega
                  have f2 := fin.out (Or.inr (Or.inr (by rw [hu.out, hv.out]; exact he)))
                  rw [hu.out, hv.out] at f2
                  by_cases huv : u < v
                  · have f3 : bytesLess X.toList Y.toList = true := by rw [f2.1]; simp [hB, huv]
                    have f4 : (X.toList == Y.toList) = false := by rw [f2.2]; simp; omega
                    clear f2 fin
                    go_wp2_with fail
                    go_quiet (fail)
                    go_wp2_with fail
                    go_quiet (fail)
                    go_wp2_with fail
                    refine (cx.out _ (e0.next (hnx.drewN _))).mono ?_
                    rintro e w1 ⟨rfl, rfl⟩
                    go_wp2_with fail
                    refine (cy.out _ (e1.next (hnx.drewN _))).mono ?_
                    rintro e w2 ⟨rfl, rfl⟩
                    go_wp2_with fail
                    go_ret
                    exact ⟨rfl, hnx.drewN _⟩
                  · have huv' : decide (u < v) = false := by simp; omega
                    have f3 : bytesLess X.toList Y.toList = false := by rw [f2.1]; simp; omega
                    have f4 : (X.toList == Y.toList) = false := by rw [f2.2]; simp; omega
                    clear f2 fin
                    go_wp2_with fail
                    go_quiet (fail)
                    go_wp2_with fail
                    go_quiet (fail)
                    go_wp2_with fail
                    refine (cx.out _ (e0.next (hnx.drewN _))).mono ?_
                    rintro e w1 ⟨rfl, rfl⟩
                    go_wp2_with fail
                    refine (cy.out _ (e1.next (hnx.drewN _))).mono ?_
                    rintro e w2 ⟨rfl, rfl⟩
                    go_wp2_with fail
                    go_ret
                    exact ⟨rfl, hnx.drewN _⟩
              · have hd2 : decide (m < j) = false := by simp; omega
                have f2 := fin.out (Or.inr (Or.inl (by omega)))
                have hmn : ((m : Int) == (k : Int)) = false := by simp; omega
                have f3 : bytesLess X.toList Y.toList = false := by rw [f2.1]; simp; omega
                have f4 : (X.toList == Y.toList) = false := by rw [f2.2]; simp; omega
                clear f2 fin
                go_wp2_with fail
                go_quiet (fail)
                go_wp2_with fail
                go_quiet (fail)
                go_wp2_with fail
                refine (cx.out _ (e0.next (hnx.drewN _))).mono ?_
                rintro e w1 ⟨rfl, rfl⟩
                go_wp2_with fail
                refine (cy.out _ (e1.next (hnx.drewN _))).mono ?_
                rintro e w2 ⟨rfl, rfl⟩
                go_wp2_with fail
                go_ret
                exact ⟨rfl, hnx.drewN _⟩
            · have hd1 : decide (m < k) = false := by simp; omega
              have hmn : ((m : Int) == (k : Int)) = true := by simp; omega
              have f2 := fin.out (Or.inl (by omega))
              by_cases hB : m < j
              · have hmj' : ((m : Int) == (j : Int)) = false := by simp; omega
                have f3 : bytesLess X.toList Y.toList = true := by rw [f2.1]; simp; omega
                have f4 : (X.toList == Y.toList) = false := by rw [f2.2]; simp; omega
                clear f2 fin
                go_wp2_with fail
                go_quiet (fail)
                go_wp2_with fail
                go_quiet (fail)
                go_wp2_with fail
                refine (cx.out _ (e0.next (hnx.drewN _))).mono ?_
                rintro e w1 ⟨rfl, rfl⟩
                go_wp2_with fail
                refine (cy.out _ (e1.next (hnx.drewN _))).mono ?_
                rintro e w2 ⟨rfl, rfl⟩
                go_wp2_with fail
                go_ret
                exact ⟨rfl, hnx.drewN _⟩
              · have hd2 : decide (m < j) = false := by simp; omega
                have hmj' : ((m : Int) == (j : Int)) = true := by simp; omega
                have f3 : bytesLess X.toList Y.toList = false := by rw [f2.1]; simp; omega
                have f4 : (X.toList == Y.toList) = true := by rw [f2.2]; simp; omega
                clear f2 fin
                go_wp2_with fail
                go_quiet (fail)
                go_wp2_with fail
                go_quiet (fail)
                go_wp2_with fail
                refine (cx.out _ (e0.next (hnx.drewN _))).mono ?_
                rintro e w1 ⟨rfl, rfl⟩
                go_wp2_with fail
                refine (cy.out _ (e1.next (hnx.drewN _))).mono ?_
                rintro e w2 ⟨rfl, rfl⟩
                go_wp2_with fail
                go_ret
                exact ⟨rfl, hnx.drewN _⟩
namespace fnOrderTexts
open Go.ChangeShapes Go.WideShapes Go.ChangeAt Go.RowKit
open Go.ChangeMaps (open_string shut_string)
set_option maxRecDepth 100000 in
set_option linter.unusedVariables false in
theorem lifted (os : Os) (started : os.Started) (H : Type) (enc : TypeId × Value → H) :
    ReturnsInHanded {} Try.checked os 3 .any (Rows.fnOrderTextsSpec.pre6 enc Try.prog Try.f3 Rows.fnOrderTextsRow.domain false) (Rows.fnOrderTextsSpec.post enc Try.prog Try.f3 false true false false) := by
  refine returnsInHanded_of_change_sized (C := Try.checked) own started (by kernel_rfl) Try.func3
    (ChangeSpec.witness6 (enc := enc) (C := Try.checked) false ⟨#[], #[.slice none 0 0, .slice none 0 0], []⟩ 8 (by kernel_rfl) (by kernel_rfl) (by kernel_rfl) (by kernel_rfl)) ?_
  intro W base args ds gs before hval0 hW hcnd hsz0 _
  have hsz : (DataW.weightsEach Try.prog (Try.f3.params.toList ++ Rows.fnOrderTextsSpec.plain.varTypes Try.prog) (ds ++ gs)).all (· ≤ reachBytes) = true := hsz0
  rw [Try.params3] at hsz
  have hval : ∀ (j : Nat) t v, Try.f3.params[j]? = some t → args[j]? = some v → Value.okWide Try.prog W .any base t v := hval0
  have hW' := hW
  obtain ⟨p, q, hA0, hV, rfl, hfz, hnd⟩ := hW
  have hA : DataW.TrodAll enc Try.prog W 0 (fun _ => true) true Try.f3.params.toList args.toList ds p := hA0
  rw [Try.params3] at hA hval
  obtain ⟨v0, vs0, d0, ds0, p0, q0, hargs, rfl, rfl, h0, r0⟩ := trodAll_cons hA
  obtain ⟨v1, vs1, d1, ds1, p1, q1, rfl, rfl, rfl, h1, r1⟩ := trodAll_cons r0
  obtain ⟨rfl, rfl, rfl⟩ := trodAll_nil r1
  obtain rfl : args = #[v0, v1] := by cases args; simp_all
  obtain ⟨rfl, rfl⟩ := trodVars_none hV
  have k0 := h0
  have lt0 : ∀ x ∈ p0, x.block < W.heap.size := by obtain ⟨m, hm⟩ := k0; exact DataW.trod_lt m _ _ _ hm
  obtain ⟨A0, n0, c0, zz0, rfl, e0, g0, m0, w0, u0⟩ := open_sl Try.underlying22 Try.underlying21 (by kernel_rfl) (hval 0 22 v0 rfl rfl) h0
  have b0 : ∀ z ∈ zz0, -2147483648 ≤ z ∧ z ≤ 2147483647 := fun z hz => by simpa [Lit.wf, IntKind.min, IntKind.max, IntKind.signed, IntKind.bits] using w0 z hz
  have z0 : c0 ≤ 35184372087808 := by have := held_size (j := 0) (t := 22) (b := 4) hsz (by kernel_rfl) (by rfl) rfl Try.underlying22 u0; omega
  have k1 := h1
  have lt1 : ∀ x ∈ p1, x.block < W.heap.size := by obtain ⟨m, hm⟩ := k1; exact DataW.trod_lt m _ _ _ hm
  obtain ⟨A1, n1, c1, zz1, rfl, e1, g1, m1, w1, u1⟩ := open_sl Try.underlying22 Try.underlying21 (by kernel_rfl) (hval 1 22 v1 rfl rfl) h1
  have b1 : ∀ z ∈ zz1, -2147483648 ≤ z ∧ z ≤ 2147483647 := fun z hz => by simpa [Lit.wf, IntKind.min, IntKind.max, IntKind.signed, IntKind.bits] using w1 z hz
  have z1 : c1 ≤ 35184372087808 := by have := held_size (j := 1) (t := 22) (b := 4) hsz (by kernel_rfl) (by rfl) rfl Try.underlying22 u1; omega
  clear hA0 hval0
  refine (fnOrderTexts_walk A0 n0 c0 zz0 A1 n1 c1 zz1 W e0 b0 g0 z0 e1 b1 g1 z1).mono fun e W' ⟨he, bel⟩ => ?_
  subst he
  exact ⟨_, rfl, _, _, _, [], _, [], hW', trodAll_mk1 (shut_bool Try.underlying4 _), (trodAll_cons_mk (Below.trod laidOut (by kernel_rfl) (of_decide_eq_true (by kernel_rfl)) k0 bel.out lt0) (trodAll_cons_mk (Below.trod laidOut (by kernel_rfl) (of_decide_eq_true (by kernel_rfl)) k1 bel.out lt1) trodAll_mk0)), rfl, bel.out.frame _, fun h => by cases h⟩
theorem said : Rows.FnOrderTextsSaid :=
  OpenClaim.holds_of_wide 3 Try.f3 rfl rfl rfl rfl rfl rfl rfl ⟨rfl, rfl, rfl, rfl, rfl⟩ rfl rfl rfl rfl rfl (by kernel_rfl) Try.func3 (by kernel_rfl)
    (of_decide_eq_true (by kernel_rfl)) (by unfold Func.isWrapper; first | (rw [if_pos (by decide +kernel)]; kernel_rfl) | (rw [if_neg (by decide +kernel)]; exact ⟨rfl, rfl⟩))
    (fun os started H enc _ => lifted os started H enc)
end fnOrderTexts
end Go.Proofs.Ytlkkhpafidjahaa
