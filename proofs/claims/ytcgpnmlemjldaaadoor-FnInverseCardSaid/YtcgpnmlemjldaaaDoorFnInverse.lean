/- FnInverse: unless what is decoded is RuneError with one byte or none, its encoding is the bytes from which it is decoded, at both ends. The tables are those that the program lays. -/
import Derived.Test.YtcgpnmlemjldaaaDoorFrame
import Derived.Test.YtcgpnmlemjldaaaDoorDecodeU
import Derived.Test.YtcgpnmlemjldaaaDoorAppend
import Derived.Test.YtcgpnmlemjldaaaDoorSame
import Derived.Test.YtcgpnmlemjldaaaDoorPlainE
import Derived.Deep.RegionHeld3
import Derived.Deep.RegionWith
import Derived.Deep.QuietTactic
import Derived.BigQuiet
namespace Go.Proofs.YtcgpnmlemjldaaaDoor
open Go.RowKit Go.Lib
set_option linter.unusedVariables false
set_option maxRecDepth 100000 in
set_option maxHeartbeats 8000000 in
theorem fnInverse_walk (A0 : Option Addr) (n0 c0 : Nat) (l0 : List UInt8) (w : World) (hT : Tabs w) (e0 : By w A0 n0 l0) (g0 : n0 ≤ c0) (m0 : c0 ≤ 140737488351232) :
    Calls Tryd.prog 5 #[.slice A0 n0 c0] w fun e w' => e = .returned (.bool true) ∧ Nx w w' := by
  have LX := Lib.hid e0.len
  by_cases h0 : n0 = 0
  · subst h0
    have hn : l0 = [] := List.eq_nil_of_length_eq_zero LX.out
    subst hn
    have d0 : Hid (dec [] = (65533, 0)) := rfl
    have d1 : Hid (decodeLastL [] = (65533, 0)) := rfl
    go_enter Tryd.func5, Tryd.ntmps5
    go_wp2_with fail
    refine (decode_any _ _ _ [] _ hT e0).mono ?_
    rw [d0.out]
    rintro e w1 ⟨rfl, x1⟩
    go_wp2_with fail
    go_quiet (fail)
    have x1n : Nx w (w1.drewN nq) := x1.drewN nq
    generalize w1.drewN nq = w1n at x1n ⊢
    go_wp2_with fail
    refine (last_any _ _ _ [] _ (hT.next x1n) (e0.next x1n) g0 (by omega)).mono ?_
    rw [d1.out]
    rintro e w2 ⟨rfl, x2⟩
    go_wp2_with fail
    go_quiet (fail)
    go_wp2_with fail
    go_ret
    exact ⟨rfl, (x1n.trans x2).drewN _⟩
  · have hne : l0 ≠ [] := by
      intro hn
      have := LX.out
      rw [hn] at this
      simp at this
      omega
    obtain ⟨R, hR⟩ : ∃ K, Hid ((dec l0).1 = K) := ⟨_, rfl⟩
    obtain ⟨K, hK⟩ : ∃ K, Hid ((dec l0).2 = K) := ⟨_, rfl⟩
    obtain ⟨S, hS⟩ : ∃ K, Hid ((decodeLastL l0).1 = K) := ⟨_, rfl⟩
    obtain ⟨J, hJ⟩ : ∃ K, Hid ((decodeLastL l0).2 = K) := ⟨_, rfl⟩
    obtain ⟨rl, k4, kn, k1, rg⟩ := dec_bounds l0
    obtain ⟨sl, j4, jn, j1, sg⟩ := last_bounds l0
    have k1 := k1 hne
    have j1 := j1 hne
    have ED := Lib.hid (enc_dec l0 hne)
    have EL := Lib.hid (enc_last l0 hne)
    rw [hR.out, hK.out] at ED
    rw [hS.out, hJ.out, LX.out] at EL
    rw [hR.out] at rl
    rw [hS.out] at sl
    rw [hK.out] at k4 kn k1
    rw [hJ.out] at j4 jn j1
    rw [LX.out] at kn jn
    clear rg sg
    have z0 : ((K : Int) == 0) = false := by simp; omega
    have z1 : ((J : Int) == 0) = false := by simp; omega
    by_cases h3 : R = 65533 ∧ K ≤ 1
    · obtain ⟨h3, h4⟩ := h3
      have q3 : ((R : Int) != 65533) = false := by simp; omega
      have q4 : decide ((1 : Int) < (K : Int)) = false := by simp; omega
      clear h3
      go_enter Tryd.func5, Tryd.ntmps5
      go_wp2_with fail
      refine (decode_any _ _ _ l0 _ hT e0).mono ?_
      rw [hR.out, hK.out]
      rintro e w1 ⟨rfl, x1⟩
      go_wp2_with fail
      go_quiet (fail)
      have x1n : Nx w (w1.drewN nq) := x1.drewN nq
      generalize w1.drewN nq = w1n at x1n ⊢
      by_cases h5 : S = 65533 ∧ J ≤ 1
      · obtain ⟨h5, h6⟩ := h5
        have q5 : ((S : Int) == 65533) = true := by simp; omega
        have q6 : (J : Int) ≤ 1 := by omega
        clear h5
        go_wp2_with fail
        refine (last_any _ _ _ l0 _ (hT.next x1n) (e0.next x1n) g0 (by omega)).mono ?_
        rw [hS.out, hJ.out]
        rintro e w5 ⟨rfl, x5⟩
        have y5 := (x1n).trans x5
        go_wp2_with fail
        go_quiet (fail)
        go_wp2_with fail
        go_ret
        exact ⟨rfl, y5.drewN _⟩
      · have hen := Lib.hid (EL.out h5)
        have ca := Lib.hid fun W A c => append_new A c (S : Int) W (by omega) (by omega)
        by_cases h7 : S = 65533
        · have hJ3 : J = 3 := by
            have h := congrArg List.length hen.out
            rw [h7, List.length_drop, LX.out] at h
            have h3' : (encodeRune ((65533 : Nat) : Int)).length = 3 := by decide
            omega
          have q5 : ((S : Int) == 65533) = true := by simp; omega
          subst hJ3
          clear h5 h7
          have hcut := fun W => run_cut (P := Tryd.prog) 22 5 Tryd.underlying22 (fun _ => by kernel_rfl) A0 n0 c0 .i64 ((n0 : Int) - 3) (n0 - 3) (by omega) (by omega) W
          rw [show n0 - (n0 - 3) = 3 by omega] at hcut
          have sc := By.from_ (i := n0 - 3) (cap := c0) e0 (by omega) g0
          rw [show n0 - (n0 - 3) = 3 by omega, ← hen.out] at sc
          have cm := Lib.hid fun W A n c (hx : By W A n (encodeRune (S : Int))) (hy : Nx w W) (hn : n ≤ 4) => same_u8_by A (cutA A0 c0 (n0 - 3)) n 3 c (c0 - (n0 - 3)) (encodeRune (S : Int)) (encodeRune (S : Int)) W hx (sc.next hy) (by omega) (by omega)
          rw [eqB_refl] at cm
          have hwr : IntKind.i64.wrap ((n0 : Int) - 3) = (n0 : Int) - 3 := IntWalk.i64_in _ ⟨by omega, by omega⟩
          go_wp2_with fail
          refine (last_any _ _ _ l0 _ (hT.next x1n) (e0.next x1n) g0 (by omega)).mono ?_
          rw [hS.out, hJ.out]
          rintro e w5 ⟨rfl, x5⟩
          have y5 := (x1n).trans x5
          go_wp2_with fail
          refine wp_region_any (by kernel_rfl) ?_
          change wpAny _ _ _ _ _ _ _ (World.drew _)
          refine wpAny_take (i := 0) (v := ?_) rfl (by kernel_rfl) (by kernel_rfl) (by kernel_rfl) (fun _ _ _ h => h) (Or.inl ⟨by rfl, ?_⟩) ?_
          rotate_left
          · intro w
            go_simp
            all_goals with_reducible rfl
          refine wpAny_take (i := 1) (v := ?_) rfl (by kernel_rfl) (by kernel_rfl) (by kernel_rfl) (fun _ _ _ h => h) (Or.inl ⟨by rfl, ?_⟩) ?_
          rotate_left
          · intro w
            go_simp
            all_goals with_reducible rfl
          refine wpAny_take (i := 2) (v := ?_) rfl (by kernel_rfl) (by kernel_rfl) (by kernel_rfl) (fun _ _ _ h => h) (Or.inl ⟨by rfl, ?_⟩) ?_
          rotate_left
          · intro w
            go_simp
            all_goals with_reducible rfl
          refine wpAny_ready (rs := [3]) (by kernel_rfl) (by simp) ?_
          refine AllReady.cons rfl (fun K hK => ?_) AllReady.nil
          go_simp
          refine hK _ _ ?_
          clear hK K
          refine wpAny_ready (rs := [4]) (by kernel_rfl) (by simp) ?_
          refine AllReady.cons rfl (fun K hK => ?_) AllReady.nil
          go_simp
          refine hK _ _ ?_
          clear hK K
          refine wpAny_take (i := 5) (v := ?_) rfl (by kernel_rfl) (by kernel_rfl) (by kernel_rfl) (fun _ _ _ h => h) (Or.inl ⟨by rfl, ?_⟩) ?_
          rotate_left
          · intro w
            go_simp
            all_goals with_reducible rfl
          refine wpAny_take (i := 6) (v := ?_) rfl (by kernel_rfl) (by kernel_rfl) (by kernel_rfl) (fun _ _ _ h => h) (Or.inl ⟨by rfl, ?_⟩) ?_
          rotate_left
          · intro w
            go_simp
            all_goals with_reducible rfl
          refine wpAny_take (i := 8) (v := ?_) rfl (by kernel_rfl) (by kernel_rfl) (by kernel_rfl) (fun _ _ _ h => h) (Or.inl ⟨by rfl, ?_⟩) ?_
          rotate_left
          · intro w
            go_simp
            all_goals with_reducible rfl
          refine wpAny_take (i := 10) (v := ?_) rfl (by kernel_rfl) (by kernel_rfl) (by kernel_rfl) (fun _ _ _ h => h) (Or.inl ⟨by rfl, ?_⟩) ?_
          rotate_left
          · intro w
            go_simp
            all_goals with_reducible rfl
          refine wpAny_take (i := 11) (v := ?_) rfl (by kernel_rfl) (by kernel_rfl) (by kernel_rfl) (fun _ _ _ h => h) (Or.inl ⟨by rfl, ?_⟩) ?_
          rotate_left
          · intro w
            go_simp
            all_goals with_reducible rfl
          go_simp
          refine wpAny_take (i := 12) (v := ?_) rfl (by kernel_rfl) (by kernel_rfl) (by kernel_rfl) (fun _ _ _ h => h) (Or.inl ⟨by rfl, ?_⟩) ?_
          rotate_left
          · intro w
            go_simp
            all_goals with_reducible rfl
          refine wpAny_take (i := 13) (v := ?_) rfl (by kernel_rfl) (by kernel_rfl) (by kernel_rfl) (fun _ _ _ h => h) (Or.inl ⟨by rfl, ?_⟩) ?_
          rotate_left
          · intro w
            go_simp
            all_goals with_reducible rfl
          refine wpAny_take (i := 14) (v := ?_) rfl (by kernel_rfl) (by kernel_rfl) (by kernel_rfl) (fun _ _ _ h => h) (Or.inl ⟨by rfl, ?_⟩) ?_
          rotate_left
          · intro w
            go_simp
            all_goals with_reducible rfl
          refine wpAny_take (i := 15) (v := ?_) rfl (by kernel_rfl) (by kernel_rfl) (by kernel_rfl) (fun _ _ _ h => h) (Or.inl ⟨by rfl, ?_⟩) ?_
          rotate_left
          · intro w
            go_simp
            all_goals with_reducible rfl
          go_simp
          refine wpAny_ready (rs := [7]) (by kernel_rfl) (by simp) ?_
          refine AllReady.cons rfl (fun K hK => ?_) AllReady.nil
          go_simp
          refine hK _ _ ?_
          clear hK K
          refine wpAny_ready (rs := [9]) (by kernel_rfl) (by simp) ?_
          refine AllReady.cons rfl (fun K hK => ?_) AllReady.nil
          go_simp
          go_wp2_with (go_at_call 18; refine (ca.out _ _ _).mono ?_; rintro e w6 ⟨A6, n6, c6, rfl, o6, l6, p6, u6, g6, x7⟩; have y7 := ((y5.drew).alloc _).trans x7)
          refine wpAny_ready (rs := [16]) (by kernel_rfl) (by simp) ?_
          refine AllReady.cons rfl (fun K hK => ?_) AllReady.nil
          go_simp
          go_wp2_with (go_at_call 20; refine (cm.out _ _ _ _ o6.sl y7 u6).mono ?_; rintro e w7 ⟨rfl, x8⟩; have y8 := y7.trans x8)
          refine wpAny_take (i := 17) (v := ?_) rfl (by kernel_rfl) (by kernel_rfl) (by kernel_rfl) (fun _ _ _ h => h) (Or.inl ⟨by rfl, ?_⟩) ?_
          rotate_left
          · intro w
            go_simp
            all_goals with_reducible rfl
          refine wpAny_ready (rs := [18]) (by kernel_rfl) (by simp) ?_
          refine AllReady.cons rfl (fun K hK => ?_) AllReady.nil
          go_simp
          refine hK _ _ ?_
          clear hK K
          refine wpAny_done (by kernel_rfl) ?_ _
          go_wp2_with fail
          go_ret
          exact ⟨rfl, y8⟩
        · have q5 : ((S : Int) == 65533) = false := by simp; omega
          clear h5 h7
          have hcut := fun W => run_cut (P := Tryd.prog) 22 5 Tryd.underlying22 (fun _ => by kernel_rfl) A0 n0 c0 .i64 ((n0 : Int) - (J : Int)) (n0 - J) (by omega) (by omega) W
          rw [show n0 - (n0 - J) = J by omega] at hcut
          have sc := By.from_ (i := n0 - J) (cap := c0) e0 (by omega) g0
          rw [show n0 - (n0 - J) = J by omega, ← hen.out] at sc
          have cm := Lib.hid fun W A n c (hx : By W A n (encodeRune (S : Int))) (hy : Nx w W) (hn : n ≤ 4) => same_u8_by A (cutA A0 c0 (n0 - J)) n J c (c0 - (n0 - J)) (encodeRune (S : Int)) (encodeRune (S : Int)) W hx (sc.next hy) (by omega) (by omega)
          rw [eqB_refl] at cm
          have hwr : IntKind.i64.wrap ((n0 : Int) - (J : Int)) = (n0 : Int) - (J : Int) := IntWalk.i64_in _ ⟨by omega, by omega⟩
          go_wp2_with fail
          refine (last_any _ _ _ l0 _ (hT.next x1n) (e0.next x1n) g0 (by omega)).mono ?_
          rw [hS.out, hJ.out]
          rintro e w5 ⟨rfl, x5⟩
          have y5 := (x1n).trans x5
          go_wp2_with fail
          refine wp_region_any (by kernel_rfl) ?_
          change wpAny _ _ _ _ _ _ _ (World.drew _)
          refine wpAny_take (i := 0) (v := ?_) rfl (by kernel_rfl) (by kernel_rfl) (by kernel_rfl) (fun _ _ _ h => h) (Or.inl ⟨by rfl, ?_⟩) ?_
          rotate_left
          · intro w
            go_simp
            all_goals with_reducible rfl
          refine wpAny_take (i := 1) (v := ?_) rfl (by kernel_rfl) (by kernel_rfl) (by kernel_rfl) (fun _ _ _ h => h) (Or.inl ⟨by rfl, ?_⟩) ?_
          rotate_left
          · intro w
            go_simp
            all_goals with_reducible rfl
          refine wpAny_take (i := 2) (v := ?_) rfl (by kernel_rfl) (by kernel_rfl) (by kernel_rfl) (fun _ _ _ h => h) (Or.inl ⟨by rfl, ?_⟩) ?_
          rotate_left
          · intro w
            go_simp
            all_goals with_reducible rfl
          refine wpAny_ready (rs := [3]) (by kernel_rfl) (by simp) ?_
          refine AllReady.cons rfl (fun K hK => ?_) AllReady.nil
          go_simp
          refine hK _ _ ?_
          clear hK K
          refine wpAny_ready (rs := [4]) (by kernel_rfl) (by simp) ?_
          refine AllReady.cons rfl (fun K hK => ?_) AllReady.nil
          go_simp
          refine hK _ _ ?_
          clear hK K
          refine wpAny_take (i := 5) (v := ?_) rfl (by kernel_rfl) (by kernel_rfl) (by kernel_rfl) (fun _ _ _ h => h) (Or.inl ⟨by rfl, ?_⟩) ?_
          rotate_left
          · intro w
            go_simp
            all_goals with_reducible rfl
          refine wpAny_take (i := 6) (v := ?_) rfl (by kernel_rfl) (by kernel_rfl) (by kernel_rfl) (fun _ _ _ h => h) (Or.inl ⟨by rfl, ?_⟩) ?_
          rotate_left
          · intro w
            go_simp
            all_goals with_reducible rfl
          refine wpAny_take (i := 8) (v := ?_) rfl (by kernel_rfl) (by kernel_rfl) (by kernel_rfl) (fun _ _ _ h => h) (Or.inl ⟨by rfl, ?_⟩) ?_
          rotate_left
          · intro w
            go_simp
            all_goals with_reducible rfl
          refine wpAny_take (i := 10) (v := ?_) rfl (by kernel_rfl) (by kernel_rfl) (by kernel_rfl) (fun _ _ _ h => h) (Or.inl ⟨by rfl, ?_⟩) ?_
          rotate_left
          · intro w
            go_simp
            all_goals with_reducible rfl
          refine wpAny_take (i := 11) (v := ?_) rfl (by kernel_rfl) (by kernel_rfl) (by kernel_rfl) (fun _ _ _ h => h) (Or.inl ⟨by rfl, ?_⟩) ?_
          rotate_left
          · intro w
            go_simp
            all_goals with_reducible rfl
          go_simp
          refine wpAny_take (i := 12) (v := ?_) rfl (by kernel_rfl) (by kernel_rfl) (by kernel_rfl) (fun _ _ _ h => h) (Or.inl ⟨by rfl, ?_⟩) ?_
          rotate_left
          · intro w
            go_simp
            all_goals with_reducible rfl
          refine wpAny_take (i := 13) (v := ?_) rfl (by kernel_rfl) (by kernel_rfl) (by kernel_rfl) (fun _ _ _ h => h) (Or.inl ⟨by rfl, ?_⟩) ?_
          rotate_left
          · intro w
            go_simp
            all_goals with_reducible rfl
          refine wpAny_take (i := 14) (v := ?_) rfl (by kernel_rfl) (by kernel_rfl) (by kernel_rfl) (fun _ _ _ h => h) (Or.inl ⟨by rfl, ?_⟩) ?_
          rotate_left
          · intro w
            go_simp
            all_goals with_reducible rfl
          refine wpAny_take (i := 15) (v := ?_) rfl (by kernel_rfl) (by kernel_rfl) (by kernel_rfl) (fun _ _ _ h => h) (Or.inl ⟨by rfl, ?_⟩) ?_
          rotate_left
          · intro w
            go_simp
            all_goals with_reducible rfl
          go_simp
          refine wpAny_ready (rs := [7]) (by kernel_rfl) (by simp) ?_
          refine AllReady.cons rfl (fun K hK => ?_) AllReady.nil
          go_simp
          refine hK _ _ ?_
          clear hK K
          refine wpAny_ready (rs := [9]) (by kernel_rfl) (by simp) ?_
          refine AllReady.cons rfl (fun K hK => ?_) AllReady.nil
          go_simp
          go_wp2_with (go_at_call 18; refine (ca.out _ _ _).mono ?_; rintro e w6 ⟨A6, n6, c6, rfl, o6, l6, p6, u6, g6, x7⟩; have y7 := ((y5.drew).alloc _).trans x7)
          refine wpAny_ready (rs := [16]) (by kernel_rfl) (by simp) ?_
          refine AllReady.cons rfl (fun K hK => ?_) AllReady.nil
          go_simp
          go_wp2_with (go_at_call 20; refine (cm.out _ _ _ _ o6.sl y7 u6).mono ?_; rintro e w7 ⟨rfl, x8⟩; have y8 := y7.trans x8)
          refine wpAny_take (i := 17) (v := ?_) rfl (by kernel_rfl) (by kernel_rfl) (by kernel_rfl) (fun _ _ _ h => h) (Or.inl ⟨by rfl, ?_⟩) ?_
          rotate_left
          · intro w
            go_simp
            all_goals with_reducible rfl
          refine wpAny_ready (rs := [18]) (by kernel_rfl) (by simp) ?_
          refine AllReady.cons rfl (fun K hK => ?_) AllReady.nil
          go_simp
          refine hK _ _ ?_
          clear hK K
          refine wpAny_done (by kernel_rfl) ?_ _
          go_wp2_with fail
          go_ret
          exact ⟨rfl, y8⟩
    · have hen := Lib.hid (ED.out h3)
      have cb := Lib.hid fun W A c => append_new A c (R : Int) W (by omega) (by omega)
      by_cases h4 : R = 65533
      · have hK3 : K = 3 := by
          have h := congrArg List.length hen.out
          rw [h4, List.length_take, LX.out] at h
          have h3' : (encodeRune ((65533 : Nat) : Int)).length = 3 := by decide
          omega
        have q3 : ((R : Int) != 65533) = false := by simp; omega
        subst hK3
        clear h3 h4
        have hup := fun W => run_upto (P := Tryd.prog) 22 5 Tryd.underlying22 (fun _ => by kernel_rfl) A0 n0 c0 .i64 (3 : Int) 3 rfl (by omega) W
        have sc := By.upto (j := 3) e0 (by omega)
        rw [← hen.out] at sc
        have cn := Lib.hid fun W A n c (hx : By W A n (encodeRune (R : Int))) (hy : Nx w W) (hn : n ≤ 4) => same_u8_by A A0 n 3 c c0 (encodeRune (R : Int)) (encodeRune (R : Int)) W hx (sc.next hy) (by omega) (by omega)
        rw [eqB_refl] at cn
        go_enter Tryd.func5, Tryd.ntmps5
        go_wp2_with fail
        refine (decode_any _ _ _ l0 _ hT e0).mono ?_
        rw [hR.out, hK.out]
        rintro e w1 ⟨rfl, x1⟩
        go_wp2_with fail
        refine wp_region_any (by kernel_rfl) ?_
        change wpAny _ _ _ _ _ _ _ (World.drew _)
        refine wpAny_take (i := 0) (v := ?_) rfl (by kernel_rfl) (by kernel_rfl) (by kernel_rfl) (fun _ _ _ h => h) (Or.inl ⟨by rfl, ?_⟩) ?_
        rotate_left
        · intro w
          go_simp
          all_goals with_reducible rfl
        refine wpAny_take (i := 1) (v := ?_) rfl (by kernel_rfl) (by kernel_rfl) (by kernel_rfl) (fun _ _ _ h => h) (Or.inl ⟨by rfl, ?_⟩) ?_
        rotate_left
        · intro w
          go_simp
          all_goals with_reducible rfl
        refine wpAny_take (i := 2) (v := ?_) rfl (by kernel_rfl) (by kernel_rfl) (by kernel_rfl) (fun _ _ _ h => h) (Or.inl ⟨by rfl, ?_⟩) ?_
        rotate_left
        · intro w
          go_simp
          all_goals with_reducible rfl
        refine wpAny_ready (rs := [3]) (by kernel_rfl) (by simp) ?_
        refine AllReady.cons rfl (fun K hK => ?_) AllReady.nil
        go_simp
        refine hK _ _ ?_
        clear hK K
        refine wpAny_ready (rs := [4]) (by kernel_rfl) (by simp) ?_
        refine AllReady.cons rfl (fun K hK => ?_) AllReady.nil
        go_simp
        refine hK _ _ ?_
        clear hK K
        refine wpAny_take (i := 5) (v := ?_) rfl (by kernel_rfl) (by kernel_rfl) (by kernel_rfl) (fun _ _ _ h => h) (Or.inl ⟨by rfl, ?_⟩) ?_
        rotate_left
        · intro w
          go_simp
          all_goals with_reducible rfl
        refine wpAny_take (i := 6) (v := ?_) rfl (by kernel_rfl) (by kernel_rfl) (by kernel_rfl) (fun _ _ _ h => h) (Or.inl ⟨by rfl, ?_⟩) ?_
        rotate_left
        · intro w
          go_simp
          all_goals with_reducible rfl
        refine wpAny_take (i := 8) (v := ?_) rfl (by kernel_rfl) (by kernel_rfl) (by kernel_rfl) (fun _ _ _ h => h) (Or.inl ⟨by rfl, ?_⟩) ?_
        rotate_left
        · intro w
          go_simp
          all_goals with_reducible rfl
        refine wpAny_take (i := 10) (v := ?_) rfl (by kernel_rfl) (by kernel_rfl) (by kernel_rfl) (fun _ _ _ h => h) (Or.inl ⟨by rfl, ?_⟩) ?_
        rotate_left
        · intro w
          go_simp
          all_goals with_reducible rfl
        refine wpAny_take (i := 11) (v := ?_) rfl (by kernel_rfl) (by kernel_rfl) (by kernel_rfl) (fun _ _ _ h => h) (Or.inl ⟨by rfl, ?_⟩) ?_
        rotate_left
        · intro w
          go_simp
          all_goals with_reducible rfl
        refine wpAny_take (i := 12) (v := ?_) rfl (by kernel_rfl) (by kernel_rfl) (by kernel_rfl) (fun _ _ _ h => h) (Or.inl ⟨by rfl, ?_⟩) ?_
        rotate_left
        · intro w
          go_simp
          all_goals with_reducible rfl
        refine wpAny_ready (rs := [7]) (by kernel_rfl) (by simp) ?_
        refine AllReady.cons rfl (fun K hK => ?_) AllReady.nil
        go_simp
        refine hK _ _ ?_
        clear hK K
        refine wpAny_ready (rs := [9]) (by kernel_rfl) (by simp) ?_
        refine AllReady.cons rfl (fun K hK => ?_) AllReady.nil
        go_simp
        go_wp2_with (go_at_call 18; refine (cb.out _ _ _).mono ?_; rintro e w2 ⟨A2, n2, c2, rfl, o2, l2, p2, u2, g2, x3⟩; have y3 := ((x1.drew).alloc _).trans x3)
        refine wpAny_ready (rs := [13]) (by kernel_rfl) (by simp) ?_
        refine AllReady.cons rfl (fun K hK => ?_) AllReady.nil
        go_simp
        go_wp2_with (go_at_call 20; refine (cn.out _ _ _ _ o2.sl y3 u2).mono ?_; rintro e w3 ⟨rfl, x4⟩; have y4 := y3.trans x4)
        refine wpAny_take (i := 14) (v := ?_) rfl (by kernel_rfl) (by kernel_rfl) (by kernel_rfl) (fun _ _ _ h => h) (Or.inl ⟨by rfl, ?_⟩) ?_
        rotate_left
        · intro w
          go_simp
          all_goals with_reducible rfl
        refine wpAny_take (i := 15) (v := ?_) rfl (by kernel_rfl) (by kernel_rfl) (by kernel_rfl) (fun _ _ _ h => h) (Or.inl ⟨by rfl, ?_⟩) ?_
        rotate_left
        · intro w
          go_simp
          all_goals with_reducible rfl
        refine wpAny_done (by kernel_rfl) ?_ _
        clear sc hup cb cn hen
        by_cases h5 : S = 65533 ∧ J ≤ 1
        · obtain ⟨h5, h6⟩ := h5
          have q5 : ((S : Int) == 65533) = true := by simp; omega
          have q6 : (J : Int) ≤ 1 := by omega
          clear h5
          go_wp2_with fail
          refine (last_any _ _ _ l0 _ (hT.next y4) (e0.next y4) g0 (by omega)).mono ?_
          rw [hS.out, hJ.out]
          rintro e w5 ⟨rfl, x5⟩
          have y5 := (y4).trans x5
          go_wp2_with fail
          go_quiet (fail)
          go_wp2_with fail
          go_ret
          exact ⟨rfl, y5.drewN _⟩
        · have hen := Lib.hid (EL.out h5)
          have ca := Lib.hid fun W A c => append_new A c (S : Int) W (by omega) (by omega)
          by_cases h7 : S = 65533
          · have hJ3 : J = 3 := by
              have h := congrArg List.length hen.out
              rw [h7, List.length_drop, LX.out] at h
              have h3' : (encodeRune ((65533 : Nat) : Int)).length = 3 := by decide
              omega
            have q5 : ((S : Int) == 65533) = true := by simp; omega
            subst hJ3
            clear h5 h7
            have hcut := fun W => run_cut (P := Tryd.prog) 22 5 Tryd.underlying22 (fun _ => by kernel_rfl) A0 n0 c0 .i64 ((n0 : Int) - 3) (n0 - 3) (by omega) (by omega) W
            rw [show n0 - (n0 - 3) = 3 by omega] at hcut
            have sc := By.from_ (i := n0 - 3) (cap := c0) e0 (by omega) g0
            rw [show n0 - (n0 - 3) = 3 by omega, ← hen.out] at sc
            have cm := Lib.hid fun W A n c (hx : By W A n (encodeRune (S : Int))) (hy : Nx w W) (hn : n ≤ 4) => same_u8_by A (cutA A0 c0 (n0 - 3)) n 3 c (c0 - (n0 - 3)) (encodeRune (S : Int)) (encodeRune (S : Int)) W hx (sc.next hy) (by omega) (by omega)
            rw [eqB_refl] at cm
            have hwr : IntKind.i64.wrap ((n0 : Int) - 3) = (n0 : Int) - 3 := IntWalk.i64_in _ ⟨by omega, by omega⟩
            go_wp2_with fail
            refine (last_any _ _ _ l0 _ (hT.next y4) (e0.next y4) g0 (by omega)).mono ?_
            rw [hS.out, hJ.out]
            rintro e w5 ⟨rfl, x5⟩
            have y5 := (y4).trans x5
            go_wp2_with fail
            refine wp_region_any (by kernel_rfl) ?_
            change wpAny _ _ _ _ _ _ _ (World.drew _)
            refine wpAny_take (i := 0) (v := ?_) rfl (by kernel_rfl) (by kernel_rfl) (by kernel_rfl) (fun _ _ _ h => h) (Or.inl ⟨by rfl, ?_⟩) ?_
            rotate_left
            · intro w
              go_simp
              all_goals with_reducible rfl
            refine wpAny_take (i := 1) (v := ?_) rfl (by kernel_rfl) (by kernel_rfl) (by kernel_rfl) (fun _ _ _ h => h) (Or.inl ⟨by rfl, ?_⟩) ?_
            rotate_left
            · intro w
              go_simp
              all_goals with_reducible rfl
            refine wpAny_take (i := 2) (v := ?_) rfl (by kernel_rfl) (by kernel_rfl) (by kernel_rfl) (fun _ _ _ h => h) (Or.inl ⟨by rfl, ?_⟩) ?_
            rotate_left
            · intro w
              go_simp
              all_goals with_reducible rfl
            refine wpAny_ready (rs := [3]) (by kernel_rfl) (by simp) ?_
            refine AllReady.cons rfl (fun K hK => ?_) AllReady.nil
            go_simp
            refine hK _ _ ?_
            clear hK K
            refine wpAny_ready (rs := [4]) (by kernel_rfl) (by simp) ?_
            refine AllReady.cons rfl (fun K hK => ?_) AllReady.nil
            go_simp
            refine hK _ _ ?_
            clear hK K
            refine wpAny_take (i := 5) (v := ?_) rfl (by kernel_rfl) (by kernel_rfl) (by kernel_rfl) (fun _ _ _ h => h) (Or.inl ⟨by rfl, ?_⟩) ?_
            rotate_left
            · intro w
              go_simp
              all_goals with_reducible rfl
            refine wpAny_take (i := 6) (v := ?_) rfl (by kernel_rfl) (by kernel_rfl) (by kernel_rfl) (fun _ _ _ h => h) (Or.inl ⟨by rfl, ?_⟩) ?_
            rotate_left
            · intro w
              go_simp
              all_goals with_reducible rfl
            refine wpAny_take (i := 8) (v := ?_) rfl (by kernel_rfl) (by kernel_rfl) (by kernel_rfl) (fun _ _ _ h => h) (Or.inl ⟨by rfl, ?_⟩) ?_
            rotate_left
            · intro w
              go_simp
              all_goals with_reducible rfl
            refine wpAny_take (i := 10) (v := ?_) rfl (by kernel_rfl) (by kernel_rfl) (by kernel_rfl) (fun _ _ _ h => h) (Or.inl ⟨by rfl, ?_⟩) ?_
            rotate_left
            · intro w
              go_simp
              all_goals with_reducible rfl
            refine wpAny_take (i := 11) (v := ?_) rfl (by kernel_rfl) (by kernel_rfl) (by kernel_rfl) (fun _ _ _ h => h) (Or.inl ⟨by rfl, ?_⟩) ?_
            rotate_left
            · intro w
              go_simp
              all_goals with_reducible rfl
            go_simp
            refine wpAny_take (i := 12) (v := ?_) rfl (by kernel_rfl) (by kernel_rfl) (by kernel_rfl) (fun _ _ _ h => h) (Or.inl ⟨by rfl, ?_⟩) ?_
            rotate_left
            · intro w
              go_simp
              all_goals with_reducible rfl
            refine wpAny_take (i := 13) (v := ?_) rfl (by kernel_rfl) (by kernel_rfl) (by kernel_rfl) (fun _ _ _ h => h) (Or.inl ⟨by rfl, ?_⟩) ?_
            rotate_left
            · intro w
              go_simp
              all_goals with_reducible rfl
            refine wpAny_take (i := 14) (v := ?_) rfl (by kernel_rfl) (by kernel_rfl) (by kernel_rfl) (fun _ _ _ h => h) (Or.inl ⟨by rfl, ?_⟩) ?_
            rotate_left
            · intro w
              go_simp
              all_goals with_reducible rfl
            refine wpAny_take (i := 15) (v := ?_) rfl (by kernel_rfl) (by kernel_rfl) (by kernel_rfl) (fun _ _ _ h => h) (Or.inl ⟨by rfl, ?_⟩) ?_
            rotate_left
            · intro w
              go_simp
              all_goals with_reducible rfl
            go_simp
            refine wpAny_ready (rs := [7]) (by kernel_rfl) (by simp) ?_
            refine AllReady.cons rfl (fun K hK => ?_) AllReady.nil
            go_simp
            refine hK _ _ ?_
            clear hK K
            refine wpAny_ready (rs := [9]) (by kernel_rfl) (by simp) ?_
            refine AllReady.cons rfl (fun K hK => ?_) AllReady.nil
            go_simp
            go_wp2_with (go_at_call 18; refine (ca.out _ _ _).mono ?_; rintro e w6 ⟨A6, n6, c6, rfl, o6, l6, p6, u6, g6, x7⟩; have y7 := ((y5.drew).alloc _).trans x7)
            refine wpAny_ready (rs := [16]) (by kernel_rfl) (by simp) ?_
            refine AllReady.cons rfl (fun K hK => ?_) AllReady.nil
            go_simp
            go_wp2_with (go_at_call 20; refine (cm.out _ _ _ _ o6.sl y7 u6).mono ?_; rintro e w7 ⟨rfl, x8⟩; have y8 := y7.trans x8)
            refine wpAny_take (i := 17) (v := ?_) rfl (by kernel_rfl) (by kernel_rfl) (by kernel_rfl) (fun _ _ _ h => h) (Or.inl ⟨by rfl, ?_⟩) ?_
            rotate_left
            · intro w
              go_simp
              all_goals with_reducible rfl
            refine wpAny_ready (rs := [18]) (by kernel_rfl) (by simp) ?_
            refine AllReady.cons rfl (fun K hK => ?_) AllReady.nil
            go_simp
            refine hK _ _ ?_
            clear hK K
            refine wpAny_done (by kernel_rfl) ?_ _
            go_wp2_with fail
            go_ret
            exact ⟨rfl, y8⟩
          · have q5 : ((S : Int) == 65533) = false := by simp; omega
            clear h5 h7
            have hcut := fun W => run_cut (P := Tryd.prog) 22 5 Tryd.underlying22 (fun _ => by kernel_rfl) A0 n0 c0 .i64 ((n0 : Int) - (J : Int)) (n0 - J) (by omega) (by omega) W
            rw [show n0 - (n0 - J) = J by omega] at hcut
            have sc := By.from_ (i := n0 - J) (cap := c0) e0 (by omega) g0
            rw [show n0 - (n0 - J) = J by omega, ← hen.out] at sc
            have cm := Lib.hid fun W A n c (hx : By W A n (encodeRune (S : Int))) (hy : Nx w W) (hn : n ≤ 4) => same_u8_by A (cutA A0 c0 (n0 - J)) n J c (c0 - (n0 - J)) (encodeRune (S : Int)) (encodeRune (S : Int)) W hx (sc.next hy) (by omega) (by omega)
            rw [eqB_refl] at cm
            have hwr : IntKind.i64.wrap ((n0 : Int) - (J : Int)) = (n0 : Int) - (J : Int) := IntWalk.i64_in _ ⟨by omega, by omega⟩
            go_wp2_with fail
            refine (last_any _ _ _ l0 _ (hT.next y4) (e0.next y4) g0 (by omega)).mono ?_
            rw [hS.out, hJ.out]
            rintro e w5 ⟨rfl, x5⟩
            have y5 := (y4).trans x5
            go_wp2_with fail
            refine wp_region_any (by kernel_rfl) ?_
            change wpAny _ _ _ _ _ _ _ (World.drew _)
            refine wpAny_take (i := 0) (v := ?_) rfl (by kernel_rfl) (by kernel_rfl) (by kernel_rfl) (fun _ _ _ h => h) (Or.inl ⟨by rfl, ?_⟩) ?_
            rotate_left
            · intro w
              go_simp
              all_goals with_reducible rfl
            refine wpAny_take (i := 1) (v := ?_) rfl (by kernel_rfl) (by kernel_rfl) (by kernel_rfl) (fun _ _ _ h => h) (Or.inl ⟨by rfl, ?_⟩) ?_
            rotate_left
            · intro w
              go_simp
              all_goals with_reducible rfl
            refine wpAny_take (i := 2) (v := ?_) rfl (by kernel_rfl) (by kernel_rfl) (by kernel_rfl) (fun _ _ _ h => h) (Or.inl ⟨by rfl, ?_⟩) ?_
            rotate_left
            · intro w
              go_simp
              all_goals with_reducible rfl
            refine wpAny_ready (rs := [3]) (by kernel_rfl) (by simp) ?_
            refine AllReady.cons rfl (fun K hK => ?_) AllReady.nil
            go_simp
            refine hK _ _ ?_
            clear hK K
            refine wpAny_ready (rs := [4]) (by kernel_rfl) (by simp) ?_
            refine AllReady.cons rfl (fun K hK => ?_) AllReady.nil
            go_simp
            refine hK _ _ ?_
            clear hK K
            refine wpAny_take (i := 5) (v := ?_) rfl (by kernel_rfl) (by kernel_rfl) (by kernel_rfl) (fun _ _ _ h => h) (Or.inl ⟨by rfl, ?_⟩) ?_
            rotate_left
            · intro w
              go_simp
              all_goals with_reducible rfl
            refine wpAny_take (i := 6) (v := ?_) rfl (by kernel_rfl) (by kernel_rfl) (by kernel_rfl) (fun _ _ _ h => h) (Or.inl ⟨by rfl, ?_⟩) ?_
            rotate_left
            · intro w
              go_simp
              all_goals with_reducible rfl
            refine wpAny_take (i := 8) (v := ?_) rfl (by kernel_rfl) (by kernel_rfl) (by kernel_rfl) (fun _ _ _ h => h) (Or.inl ⟨by rfl, ?_⟩) ?_
            rotate_left
            · intro w
              go_simp
              all_goals with_reducible rfl
            refine wpAny_take (i := 10) (v := ?_) rfl (by kernel_rfl) (by kernel_rfl) (by kernel_rfl) (fun _ _ _ h => h) (Or.inl ⟨by rfl, ?_⟩) ?_
            rotate_left
            · intro w
              go_simp
              all_goals with_reducible rfl
            refine wpAny_take (i := 11) (v := ?_) rfl (by kernel_rfl) (by kernel_rfl) (by kernel_rfl) (fun _ _ _ h => h) (Or.inl ⟨by rfl, ?_⟩) ?_
            rotate_left
            · intro w
              go_simp
              all_goals with_reducible rfl
            go_simp
            refine wpAny_take (i := 12) (v := ?_) rfl (by kernel_rfl) (by kernel_rfl) (by kernel_rfl) (fun _ _ _ h => h) (Or.inl ⟨by rfl, ?_⟩) ?_
            rotate_left
            · intro w
              go_simp
              all_goals with_reducible rfl
            refine wpAny_take (i := 13) (v := ?_) rfl (by kernel_rfl) (by kernel_rfl) (by kernel_rfl) (fun _ _ _ h => h) (Or.inl ⟨by rfl, ?_⟩) ?_
            rotate_left
            · intro w
              go_simp
              all_goals with_reducible rfl
            refine wpAny_take (i := 14) (v := ?_) rfl (by kernel_rfl) (by kernel_rfl) (by kernel_rfl) (fun _ _ _ h => h) (Or.inl ⟨by rfl, ?_⟩) ?_
            rotate_left
            · intro w
              go_simp
              all_goals with_reducible rfl
            refine wpAny_take (i := 15) (v := ?_) rfl (by kernel_rfl) (by kernel_rfl) (by kernel_rfl) (fun _ _ _ h => h) (Or.inl ⟨by rfl, ?_⟩) ?_
            rotate_left
            · intro w
              go_simp
              all_goals with_reducible rfl
            go_simp
            refine wpAny_ready (rs := [7]) (by kernel_rfl) (by simp) ?_
            refine AllReady.cons rfl (fun K hK => ?_) AllReady.nil
            go_simp
            refine hK _ _ ?_
            clear hK K
            refine wpAny_ready (rs := [9]) (by kernel_rfl) (by simp) ?_
            refine AllReady.cons rfl (fun K hK => ?_) AllReady.nil
            go_simp
            go_wp2_with (go_at_call 18; refine (ca.out _ _ _).mono ?_; rintro e w6 ⟨A6, n6, c6, rfl, o6, l6, p6, u6, g6, x7⟩; have y7 := ((y5.drew).alloc _).trans x7)
            refine wpAny_ready (rs := [16]) (by kernel_rfl) (by simp) ?_
            refine AllReady.cons rfl (fun K hK => ?_) AllReady.nil
            go_simp
            go_wp2_with (go_at_call 20; refine (cm.out _ _ _ _ o6.sl y7 u6).mono ?_; rintro e w7 ⟨rfl, x8⟩; have y8 := y7.trans x8)
            refine wpAny_take (i := 17) (v := ?_) rfl (by kernel_rfl) (by kernel_rfl) (by kernel_rfl) (fun _ _ _ h => h) (Or.inl ⟨by rfl, ?_⟩) ?_
            rotate_left
            · intro w
              go_simp
              all_goals with_reducible rfl
            refine wpAny_ready (rs := [18]) (by kernel_rfl) (by simp) ?_
            refine AllReady.cons rfl (fun K hK => ?_) AllReady.nil
            go_simp
            refine hK _ _ ?_
            clear hK K
            refine wpAny_done (by kernel_rfl) ?_ _
            go_wp2_with fail
            go_ret
            exact ⟨rfl, y8⟩
      · have q3 : ((R : Int) != 65533) = true := by simp; omega
        clear h3 h4
        have hup := fun W => run_upto (P := Tryd.prog) 22 5 Tryd.underlying22 (fun _ => by kernel_rfl) A0 n0 c0 .i64 (K : Int) K rfl (by omega) W
        have sc := By.upto (j := K) e0 (by omega)
        rw [← hen.out] at sc
        have cn := Lib.hid fun W A n c (hx : By W A n (encodeRune (R : Int))) (hy : Nx w W) (hn : n ≤ 4) => same_u8_by A A0 n K c c0 (encodeRune (R : Int)) (encodeRune (R : Int)) W hx (sc.next hy) (by omega) (by omega)
        rw [eqB_refl] at cn
        go_enter Tryd.func5, Tryd.ntmps5
        go_wp2_with fail
        refine (decode_any _ _ _ l0 _ hT e0).mono ?_
        rw [hR.out, hK.out]
        rintro e w1 ⟨rfl, x1⟩
        go_wp2_with fail
        refine wp_region_any (by kernel_rfl) ?_
        change wpAny _ _ _ _ _ _ _ (World.drew _)
        refine wpAny_take (i := 0) (v := ?_) rfl (by kernel_rfl) (by kernel_rfl) (by kernel_rfl) (fun _ _ _ h => h) (Or.inl ⟨by rfl, ?_⟩) ?_
        rotate_left
        · intro w
          go_simp
          all_goals with_reducible rfl
        refine wpAny_take (i := 1) (v := ?_) rfl (by kernel_rfl) (by kernel_rfl) (by kernel_rfl) (fun _ _ _ h => h) (Or.inl ⟨by rfl, ?_⟩) ?_
        rotate_left
        · intro w
          go_simp
          all_goals with_reducible rfl
        refine wpAny_take (i := 2) (v := ?_) rfl (by kernel_rfl) (by kernel_rfl) (by kernel_rfl) (fun _ _ _ h => h) (Or.inl ⟨by rfl, ?_⟩) ?_
        rotate_left
        · intro w
          go_simp
          all_goals with_reducible rfl
        refine wpAny_ready (rs := [3]) (by kernel_rfl) (by simp) ?_
        refine AllReady.cons rfl (fun K hK => ?_) AllReady.nil
        go_simp
        refine hK _ _ ?_
        clear hK K
        refine wpAny_ready (rs := [4]) (by kernel_rfl) (by simp) ?_
        refine AllReady.cons rfl (fun K hK => ?_) AllReady.nil
        go_simp
        refine hK _ _ ?_
        clear hK K
        refine wpAny_take (i := 5) (v := ?_) rfl (by kernel_rfl) (by kernel_rfl) (by kernel_rfl) (fun _ _ _ h => h) (Or.inl ⟨by rfl, ?_⟩) ?_
        rotate_left
        · intro w
          go_simp
          all_goals with_reducible rfl
        refine wpAny_take (i := 6) (v := ?_) rfl (by kernel_rfl) (by kernel_rfl) (by kernel_rfl) (fun _ _ _ h => h) (Or.inl ⟨by rfl, ?_⟩) ?_
        rotate_left
        · intro w
          go_simp
          all_goals with_reducible rfl
        refine wpAny_take (i := 8) (v := ?_) rfl (by kernel_rfl) (by kernel_rfl) (by kernel_rfl) (fun _ _ _ h => h) (Or.inl ⟨by rfl, ?_⟩) ?_
        rotate_left
        · intro w
          go_simp
          all_goals with_reducible rfl
        refine wpAny_take (i := 10) (v := ?_) rfl (by kernel_rfl) (by kernel_rfl) (by kernel_rfl) (fun _ _ _ h => h) (Or.inl ⟨by rfl, ?_⟩) ?_
        rotate_left
        · intro w
          go_simp
          all_goals with_reducible rfl
        refine wpAny_take (i := 11) (v := ?_) rfl (by kernel_rfl) (by kernel_rfl) (by kernel_rfl) (fun _ _ _ h => h) (Or.inl ⟨by rfl, ?_⟩) ?_
        rotate_left
        · intro w
          go_simp
          all_goals with_reducible rfl
        refine wpAny_take (i := 12) (v := ?_) rfl (by kernel_rfl) (by kernel_rfl) (by kernel_rfl) (fun _ _ _ h => h) (Or.inl ⟨by rfl, ?_⟩) ?_
        rotate_left
        · intro w
          go_simp
          all_goals with_reducible rfl
        refine wpAny_ready (rs := [7]) (by kernel_rfl) (by simp) ?_
        refine AllReady.cons rfl (fun K hK => ?_) AllReady.nil
        go_simp
        refine hK _ _ ?_
        clear hK K
        refine wpAny_ready (rs := [9]) (by kernel_rfl) (by simp) ?_
        refine AllReady.cons rfl (fun K hK => ?_) AllReady.nil
        go_simp
        go_wp2_with (go_at_call 18; refine (cb.out _ _ _).mono ?_; rintro e w2 ⟨A2, n2, c2, rfl, o2, l2, p2, u2, g2, x3⟩; have y3 := ((x1.drew).alloc _).trans x3)
        refine wpAny_ready (rs := [13]) (by kernel_rfl) (by simp) ?_
        refine AllReady.cons rfl (fun K hK => ?_) AllReady.nil
        go_simp
        go_wp2_with (go_at_call 20; refine (cn.out _ _ _ _ o2.sl y3 u2).mono ?_; rintro e w3 ⟨rfl, x4⟩; have y4 := y3.trans x4)
        refine wpAny_take (i := 14) (v := ?_) rfl (by kernel_rfl) (by kernel_rfl) (by kernel_rfl) (fun _ _ _ h => h) (Or.inl ⟨by rfl, ?_⟩) ?_
        rotate_left
        · intro w
          go_simp
          all_goals with_reducible rfl
        refine wpAny_take (i := 15) (v := ?_) rfl (by kernel_rfl) (by kernel_rfl) (by kernel_rfl) (fun _ _ _ h => h) (Or.inl ⟨by rfl, ?_⟩) ?_
        rotate_left
        · intro w
          go_simp
          all_goals with_reducible rfl
        refine wpAny_done (by kernel_rfl) ?_ _
        clear sc hup cb cn hen
        by_cases h5 : S = 65533 ∧ J ≤ 1
        · obtain ⟨h5, h6⟩ := h5
          have q5 : ((S : Int) == 65533) = true := by simp; omega
          have q6 : (J : Int) ≤ 1 := by omega
          clear h5
          go_wp2_with fail
          refine (last_any _ _ _ l0 _ (hT.next y4) (e0.next y4) g0 (by omega)).mono ?_
          rw [hS.out, hJ.out]
          rintro e w5 ⟨rfl, x5⟩
          have y5 := (y4).trans x5
          go_wp2_with fail
          go_quiet (fail)
          go_wp2_with fail
          go_ret
          exact ⟨rfl, y5.drewN _⟩
        · have hen := Lib.hid (EL.out h5)
          have ca := Lib.hid fun W A c => append_new A c (S : Int) W (by omega) (by omega)
          by_cases h7 : S = 65533
          · have hJ3 : J = 3 := by
              have h := congrArg List.length hen.out
              rw [h7, List.length_drop, LX.out] at h
              have h3' : (encodeRune ((65533 : Nat) : Int)).length = 3 := by decide
              omega
            have q5 : ((S : Int) == 65533) = true := by simp; omega
            subst hJ3
            clear h5 h7
            have hcut := fun W => run_cut (P := Tryd.prog) 22 5 Tryd.underlying22 (fun _ => by kernel_rfl) A0 n0 c0 .i64 ((n0 : Int) - 3) (n0 - 3) (by omega) (by omega) W
            rw [show n0 - (n0 - 3) = 3 by omega] at hcut
            have sc := By.from_ (i := n0 - 3) (cap := c0) e0 (by omega) g0
            rw [show n0 - (n0 - 3) = 3 by omega, ← hen.out] at sc
            have cm := Lib.hid fun W A n c (hx : By W A n (encodeRune (S : Int))) (hy : Nx w W) (hn : n ≤ 4) => same_u8_by A (cutA A0 c0 (n0 - 3)) n 3 c (c0 - (n0 - 3)) (encodeRune (S : Int)) (encodeRune (S : Int)) W hx (sc.next hy) (by omega) (by omega)
            rw [eqB_refl] at cm
            have hwr : IntKind.i64.wrap ((n0 : Int) - 3) = (n0 : Int) - 3 := IntWalk.i64_in _ ⟨by omega, by omega⟩
            go_wp2_with fail
            refine (last_any _ _ _ l0 _ (hT.next y4) (e0.next y4) g0 (by omega)).mono ?_
            rw [hS.out, hJ.out]
            rintro e w5 ⟨rfl, x5⟩
            have y5 := (y4).trans x5
            go_wp2_with fail
            refine wp_region_any (by kernel_rfl) ?_
            change wpAny _ _ _ _ _ _ _ (World.drew _)
            refine wpAny_take (i := 0) (v := ?_) rfl (by kernel_rfl) (by kernel_rfl) (by kernel_rfl) (fun _ _ _ h => h) (Or.inl ⟨by rfl, ?_⟩) ?_
            rotate_left
            · intro w
              go_simp
              all_goals with_reducible rfl
            refine wpAny_take (i := 1) (v := ?_) rfl (by kernel_rfl) (by kernel_rfl) (by kernel_rfl) (fun _ _ _ h => h) (Or.inl ⟨by rfl, ?_⟩) ?_
            rotate_left
            · intro w
              go_simp
              all_goals with_reducible rfl
            refine wpAny_take (i := 2) (v := ?_) rfl (by kernel_rfl) (by kernel_rfl) (by kernel_rfl) (fun _ _ _ h => h) (Or.inl ⟨by rfl, ?_⟩) ?_
            rotate_left
            · intro w
              go_simp
              all_goals with_reducible rfl
            refine wpAny_ready (rs := [3]) (by kernel_rfl) (by simp) ?_
            refine AllReady.cons rfl (fun K hK => ?_) AllReady.nil
            go_simp
            refine hK _ _ ?_
            clear hK K
            refine wpAny_ready (rs := [4]) (by kernel_rfl) (by simp) ?_
            refine AllReady.cons rfl (fun K hK => ?_) AllReady.nil
            go_simp
            refine hK _ _ ?_
            clear hK K
            refine wpAny_take (i := 5) (v := ?_) rfl (by kernel_rfl) (by kernel_rfl) (by kernel_rfl) (fun _ _ _ h => h) (Or.inl ⟨by rfl, ?_⟩) ?_
            rotate_left
            · intro w
              go_simp
              all_goals with_reducible rfl
            refine wpAny_take (i := 6) (v := ?_) rfl (by kernel_rfl) (by kernel_rfl) (by kernel_rfl) (fun _ _ _ h => h) (Or.inl ⟨by rfl, ?_⟩) ?_
            rotate_left
            · intro w
              go_simp
              all_goals with_reducible rfl
            refine wpAny_take (i := 8) (v := ?_) rfl (by kernel_rfl) (by kernel_rfl) (by kernel_rfl) (fun _ _ _ h => h) (Or.inl ⟨by rfl, ?_⟩) ?_
            rotate_left
            · intro w
              go_simp
              all_goals with_reducible rfl
            refine wpAny_take (i := 10) (v := ?_) rfl (by kernel_rfl) (by kernel_rfl) (by kernel_rfl) (fun _ _ _ h => h) (Or.inl ⟨by rfl, ?_⟩) ?_
            rotate_left
            · intro w
              go_simp
              all_goals with_reducible rfl
            refine wpAny_take (i := 11) (v := ?_) rfl (by kernel_rfl) (by kernel_rfl) (by kernel_rfl) (fun _ _ _ h => h) (Or.inl ⟨by rfl, ?_⟩) ?_
            rotate_left
            · intro w
              go_simp
              all_goals with_reducible rfl
            go_simp
            refine wpAny_take (i := 12) (v := ?_) rfl (by kernel_rfl) (by kernel_rfl) (by kernel_rfl) (fun _ _ _ h => h) (Or.inl ⟨by rfl, ?_⟩) ?_
            rotate_left
            · intro w
              go_simp
              all_goals with_reducible rfl
            refine wpAny_take (i := 13) (v := ?_) rfl (by kernel_rfl) (by kernel_rfl) (by kernel_rfl) (fun _ _ _ h => h) (Or.inl ⟨by rfl, ?_⟩) ?_
            rotate_left
            · intro w
              go_simp
              all_goals with_reducible rfl
            refine wpAny_take (i := 14) (v := ?_) rfl (by kernel_rfl) (by kernel_rfl) (by kernel_rfl) (fun _ _ _ h => h) (Or.inl ⟨by rfl, ?_⟩) ?_
            rotate_left
            · intro w
              go_simp
              all_goals with_reducible rfl
            refine wpAny_take (i := 15) (v := ?_) rfl (by kernel_rfl) (by kernel_rfl) (by kernel_rfl) (fun _ _ _ h => h) (Or.inl ⟨by rfl, ?_⟩) ?_
            rotate_left
            · intro w
              go_simp
              all_goals with_reducible rfl
            go_simp
            refine wpAny_ready (rs := [7]) (by kernel_rfl) (by simp) ?_
            refine AllReady.cons rfl (fun K hK => ?_) AllReady.nil
            go_simp
            refine hK _ _ ?_
            clear hK K
            refine wpAny_ready (rs := [9]) (by kernel_rfl) (by simp) ?_
            refine AllReady.cons rfl (fun K hK => ?_) AllReady.nil
            go_simp
            go_wp2_with (go_at_call 18; refine (ca.out _ _ _).mono ?_; rintro e w6 ⟨A6, n6, c6, rfl, o6, l6, p6, u6, g6, x7⟩; have y7 := ((y5.drew).alloc _).trans x7)
            refine wpAny_ready (rs := [16]) (by kernel_rfl) (by simp) ?_
            refine AllReady.cons rfl (fun K hK => ?_) AllReady.nil
            go_simp
            go_wp2_with (go_at_call 20; refine (cm.out _ _ _ _ o6.sl y7 u6).mono ?_; rintro e w7 ⟨rfl, x8⟩; have y8 := y7.trans x8)
            refine wpAny_take (i := 17) (v := ?_) rfl (by kernel_rfl) (by kernel_rfl) (by kernel_rfl) (fun _ _ _ h => h) (Or.inl ⟨by rfl, ?_⟩) ?_
            rotate_left
            · intro w
              go_simp
              all_goals with_reducible rfl
            refine wpAny_ready (rs := [18]) (by kernel_rfl) (by simp) ?_
            refine AllReady.cons rfl (fun K hK => ?_) AllReady.nil
            go_simp
            refine hK _ _ ?_
            clear hK K
            refine wpAny_done (by kernel_rfl) ?_ _
            go_wp2_with fail
            go_ret
            exact ⟨rfl, y8⟩
          · have q5 : ((S : Int) == 65533) = false := by simp; omega
            clear h5 h7
            have hcut := fun W => run_cut (P := Tryd.prog) 22 5 Tryd.underlying22 (fun _ => by kernel_rfl) A0 n0 c0 .i64 ((n0 : Int) - (J : Int)) (n0 - J) (by omega) (by omega) W
            rw [show n0 - (n0 - J) = J by omega] at hcut
            have sc := By.from_ (i := n0 - J) (cap := c0) e0 (by omega) g0
            rw [show n0 - (n0 - J) = J by omega, ← hen.out] at sc
            have cm := Lib.hid fun W A n c (hx : By W A n (encodeRune (S : Int))) (hy : Nx w W) (hn : n ≤ 4) => same_u8_by A (cutA A0 c0 (n0 - J)) n J c (c0 - (n0 - J)) (encodeRune (S : Int)) (encodeRune (S : Int)) W hx (sc.next hy) (by omega) (by omega)
            rw [eqB_refl] at cm
            have hwr : IntKind.i64.wrap ((n0 : Int) - (J : Int)) = (n0 : Int) - (J : Int) := IntWalk.i64_in _ ⟨by omega, by omega⟩
            go_wp2_with fail
            refine (last_any _ _ _ l0 _ (hT.next y4) (e0.next y4) g0 (by omega)).mono ?_
            rw [hS.out, hJ.out]
            rintro e w5 ⟨rfl, x5⟩
            have y5 := (y4).trans x5
            go_wp2_with fail
            refine wp_region_any (by kernel_rfl) ?_
            change wpAny _ _ _ _ _ _ _ (World.drew _)
            refine wpAny_take (i := 0) (v := ?_) rfl (by kernel_rfl) (by kernel_rfl) (by kernel_rfl) (fun _ _ _ h => h) (Or.inl ⟨by rfl, ?_⟩) ?_
            rotate_left
            · intro w
              go_simp
              all_goals with_reducible rfl
            refine wpAny_take (i := 1) (v := ?_) rfl (by kernel_rfl) (by kernel_rfl) (by kernel_rfl) (fun _ _ _ h => h) (Or.inl ⟨by rfl, ?_⟩) ?_
            rotate_left
            · intro w
              go_simp
              all_goals with_reducible rfl
            refine wpAny_take (i := 2) (v := ?_) rfl (by kernel_rfl) (by kernel_rfl) (by kernel_rfl) (fun _ _ _ h => h) (Or.inl ⟨by rfl, ?_⟩) ?_
            rotate_left
            · intro w
              go_simp
              all_goals with_reducible rfl
            refine wpAny_ready (rs := [3]) (by kernel_rfl) (by simp) ?_
            refine AllReady.cons rfl (fun K hK => ?_) AllReady.nil
            go_simp
            refine hK _ _ ?_
            clear hK K
            refine wpAny_ready (rs := [4]) (by kernel_rfl) (by simp) ?_
            refine AllReady.cons rfl (fun K hK => ?_) AllReady.nil
            go_simp
            refine hK _ _ ?_
            clear hK K
            refine wpAny_take (i := 5) (v := ?_) rfl (by kernel_rfl) (by kernel_rfl) (by kernel_rfl) (fun _ _ _ h => h) (Or.inl ⟨by rfl, ?_⟩) ?_
            rotate_left
            · intro w
              go_simp
              all_goals with_reducible rfl
            refine wpAny_take (i := 6) (v := ?_) rfl (by kernel_rfl) (by kernel_rfl) (by kernel_rfl) (fun _ _ _ h => h) (Or.inl ⟨by rfl, ?_⟩) ?_
            rotate_left
            · intro w
              go_simp
              all_goals with_reducible rfl
            refine wpAny_take (i := 8) (v := ?_) rfl (by kernel_rfl) (by kernel_rfl) (by kernel_rfl) (fun _ _ _ h => h) (Or.inl ⟨by rfl, ?_⟩) ?_
            rotate_left
            · intro w
              go_simp
              all_goals with_reducible rfl
            refine wpAny_take (i := 10) (v := ?_) rfl (by kernel_rfl) (by kernel_rfl) (by kernel_rfl) (fun _ _ _ h => h) (Or.inl ⟨by rfl, ?_⟩) ?_
            rotate_left
            · intro w
              go_simp
              all_goals with_reducible rfl
            refine wpAny_take (i := 11) (v := ?_) rfl (by kernel_rfl) (by kernel_rfl) (by kernel_rfl) (fun _ _ _ h => h) (Or.inl ⟨by rfl, ?_⟩) ?_
            rotate_left
            · intro w
              go_simp
              all_goals with_reducible rfl
            go_simp
            refine wpAny_take (i := 12) (v := ?_) rfl (by kernel_rfl) (by kernel_rfl) (by kernel_rfl) (fun _ _ _ h => h) (Or.inl ⟨by rfl, ?_⟩) ?_
            rotate_left
            · intro w
              go_simp
              all_goals with_reducible rfl
            refine wpAny_take (i := 13) (v := ?_) rfl (by kernel_rfl) (by kernel_rfl) (by kernel_rfl) (fun _ _ _ h => h) (Or.inl ⟨by rfl, ?_⟩) ?_
            rotate_left
            · intro w
              go_simp
              all_goals with_reducible rfl
            refine wpAny_take (i := 14) (v := ?_) rfl (by kernel_rfl) (by kernel_rfl) (by kernel_rfl) (fun _ _ _ h => h) (Or.inl ⟨by rfl, ?_⟩) ?_
            rotate_left
            · intro w
              go_simp
              all_goals with_reducible rfl
            refine wpAny_take (i := 15) (v := ?_) rfl (by kernel_rfl) (by kernel_rfl) (by kernel_rfl) (fun _ _ _ h => h) (Or.inl ⟨by rfl, ?_⟩) ?_
            rotate_left
            · intro w
              go_simp
              all_goals with_reducible rfl
            go_simp
            refine wpAny_ready (rs := [7]) (by kernel_rfl) (by simp) ?_
            refine AllReady.cons rfl (fun K hK => ?_) AllReady.nil
            go_simp
            refine hK _ _ ?_
            clear hK K
            refine wpAny_ready (rs := [9]) (by kernel_rfl) (by simp) ?_
            refine AllReady.cons rfl (fun K hK => ?_) AllReady.nil
            go_simp
            go_wp2_with (go_at_call 18; refine (ca.out _ _ _).mono ?_; rintro e w6 ⟨A6, n6, c6, rfl, o6, l6, p6, u6, g6, x7⟩; have y7 := ((y5.drew).alloc _).trans x7)
            refine wpAny_ready (rs := [16]) (by kernel_rfl) (by simp) ?_
            refine AllReady.cons rfl (fun K hK => ?_) AllReady.nil
            go_simp
            go_wp2_with (go_at_call 20; refine (cm.out _ _ _ _ o6.sl y7 u6).mono ?_; rintro e w7 ⟨rfl, x8⟩; have y8 := y7.trans x8)
            refine wpAny_take (i := 17) (v := ?_) rfl (by kernel_rfl) (by kernel_rfl) (by kernel_rfl) (fun _ _ _ h => h) (Or.inl ⟨by rfl, ?_⟩) ?_
            rotate_left
            · intro w
              go_simp
              all_goals with_reducible rfl
            refine wpAny_ready (rs := [18]) (by kernel_rfl) (by simp) ?_
            refine AllReady.cons rfl (fun K hK => ?_) AllReady.nil
            go_simp
            refine hK _ _ ?_
            clear hK K
            refine wpAny_done (by kernel_rfl) ?_ _
            go_wp2_with fail
            go_ret
            exact ⟨rfl, y8⟩
namespace fnInverse
open Go.ChangeShapes Go.WideShapes Go.ChangeAt Go.RowKit
open Go.ChangeMaps (open_string shut_string)
set_option maxRecDepth 100000 in
set_option linter.unusedVariables false in
theorem laid_met (os : Os) : laidMet Tryd.prog Rows.fnInverseRow.laid ((laidWorld os).forCall (fun _ _ => 0) ⟨#[], #[.slice none 0 0], []⟩).memory :=
  laidMet_of_run' 8 (by kernel_rfl) (by kernel_rfl)
theorem reads (os : Os) {H : Type} (enc : TypeId × Value → H) : ∃ places, DataW.whole enc Tryd.prog ((laidWorld os).forCall (fun _ _ => 0) ⟨#[], #[.slice none 0 0], []⟩).memory Tryd.f5.params.toList Rows.fnInverseSpec.vars false (#[.slice none 0 0] : Array Value).toList 8 = some ([.nil], [], places) :=
  ⟨[], by kernel_rfl⟩
set_option maxRecDepth 100000 in
set_option linter.unusedVariables false in
theorem lifted (os : Os) (started : os.Started) (H : Type) (enc : TypeId × Value → H) (F : Stop.Interp) :
    ReturnsInHanded {} Tryd.checked os 5 .any ((OpenSpec.ofChange Rows.fnInverseSpec).preRow enc Tryd.prog Tryd.f5 Rows.fnInverseRow.domain false Rows.fnInverseRow.laid) (((OpenSpec.ofChange Rows.fnInverseSpec).at F).post enc Tryd.prog Tryd.f5 false true false false) := by
  obtain ⟨places, hx⟩ := reads os enc
  refine returnsInHanded_of_row (C := Tryd.checked) (s := (OpenSpec.ofChange Rows.fnInverseSpec)) own started (by kernel_rfl) Tryd.func5
    (witness_row_at (enc := enc) (C := Tryd.checked) false (laidWorld os) #[.slice none 0 0] rfl (by kernel_rfl) (by kernel_rfl) (by kernel_rfl)
      (OpenSpec.preRow_of_cond 8 hx (by kernel_rfl) (fun k hk => by cases hk) (by kernel_rfl) (laid_met os))) ?_
  intro W base args ds gs before hval0 hW _ hkk hsz0 hL _ _
  have hsz : (DataW.weightsEach Tryd.prog (Tryd.f5.params.toList ++ (OpenSpec.ofChange Rows.fnInverseSpec).bare.plain.varTypes Tryd.prog) (ds ++ gs)).all (· ≤ reachBytes) = true := hsz0
  rw [Tryd.params5] at hsz
  have hval : ∀ (j : Nat) t v, Tryd.f5.params[j]? = some t → args[j]? = some v → Value.okWide Tryd.prog W .any base t v := hval0
  have hW' := hW
  obtain ⟨p, q, hA0, hV, rfl, hfz, hnd⟩ := hW
  have hA : DataW.TrodAll enc Tryd.prog W 0 (fun _ => true) true Tryd.f5.params.toList args.toList ds p := hA0
  rw [Tryd.params5] at hA hval
  obtain ⟨v0, vs0, d0, ds0, p0, q0, hargs, rfl, rfl, h0, r0⟩ := trodAll_cons hA
  obtain ⟨rfl, rfl, rfl⟩ := trodAll_nil r0
  obtain rfl : args = #[v0] := by cases args; simp_all
  obtain ⟨rfl, rfl⟩ := trodVars_none hV
  have k0 := h0
  have lt0 : ∀ x ∈ p0, x.block < W.heap.size := by obtain ⟨m, hm⟩ := k0; exact DataW.trod_lt m _ _ _ hm
  obtain ⟨A0, n0, c0, l0, rfl, e0, g0, m0, u0⟩ := open_by Tryd.underlying22 Tryd.underlying5 (by kernel_rfl) (hval 0 22 v0 rfl rfl) h0
  have z0 : c0 ≤ 140737488351232 := by have := held_size (j := 0) (t := 22) (b := 1) hsz (by kernel_rfl) (by rfl) rfl Tryd.underlying22 u0; omega
  clear hA0 hval0
  refine (fnInverse_walk A0 n0 c0 l0 W (tabs hL) e0 g0 z0).mono fun e W' ⟨he, bel⟩ => ?_
  subst he
  exact ⟨_, rfl, _, _, _, [], _, [], hW', trodAll_mk1 (shut_bool Tryd.underlying4 _), (trodAll_cons_mk (Below.trod laidOut (by kernel_rfl) (of_decide_eq_true (by kernel_rfl)) k0 bel.out lt0) trodAll_mk0), rfl, bel.out.frame _, fun h => by cases h⟩
theorem row : Rows.FnInverseSaid :=
  OpenClaim.holds_of_cond 5 Tryd.f5 rfl rfl rfl rfl rfl rfl rfl ⟨rfl, rfl, rfl, rfl, rfl⟩ rfl rfl rfl rfl rfl (by kernel_rfl) Tryd.func5 (by kernel_rfl)
    (of_decide_eq_true (by kernel_rfl)) (by unfold Func.isWrapper; first | (rw [if_pos (by decide +kernel)]; kernel_rfl) | (rw [if_neg (by decide +kernel)]; exact ⟨rfl, rfl⟩))
    (fun os started H enc _ F => by rw [OpenClaim.pre_eq_preRow]; exact lifted os started H enc F)
theorem plain (f : FuncId) (fn : Func) (hf : Tryd.pinned.checked.prog.funcNamed Rows.fnInverseRow.func = some f) (hfn : Tryd.pinned.checked.prog.funcs[f]? = some fn) :
    false = Tryd.pinned.checked.prog.looks [] ∧ ∀ (j : Nat) t, fn.params[j]? = some t → Tryd.pinned.checked.prog.wantsStandIn t = false := by
  obtain rfl : f = 5 := Option.some.inj ((show Tryd.prog.funcNamed Rows.fnInverseRow.func = some 5 by kernel_rfl).symm.trans hf) |>.symm
  obtain rfl : fn = Tryd.f5 := (Option.some.inj (Tryd.func5.symm.trans hfn)).symm
  refine ⟨by kernel_rfl, fun j t ht => ?_⟩
  rw [Tryd.params5] at ht
  have hm := Array.mem_of_getElem? ht
  have hor : t = 22 := by simp at hm; omega
  subst hor
  exact (show Tryd.prog.wantsStandIn 22 = false by kernel_rfl)
theorem said : Rows.FnInverseCardSaid :=
  Claim7.holds_tied_plain_at .later [] _ _ _ _ row (fun _ h => by cases h) (by kernel_rfl) (fun _ h => by cases h) fnInverse_row_tie rfl ⟨rfl, rfl⟩ (by kernel_rfl) rfl plain (by kernel_rfl)
end fnInverse
end Go.Proofs.YtcgpnmlemjldaaaDoor
