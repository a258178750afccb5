/- FnRunesOfJoin: behind a text of good runes, the runes of another string are those of this string. No condition. -/
import Derived.Test.YteloimkpkbcahaaFrame
import Derived.Test.YteloimkpkbcahaaText
import Derived.Test.YteloimkpkbcahaaConvAll
import Derived.Test.YteloimkpkbcahaaSame
namespace Go.Proofs.Yteloimkpkbcahaa
open Go.RowKit Go.Lib
set_option linter.unusedVariables false
set_option maxRecDepth 100000 in
set_option maxHeartbeats 1000000 in
theorem fnRunesOfJoin_walk (A0 : Option Addr) (n0 c0 : Nat) (z0 : List Int) (s1 : ByteArray) (w : World) (e0 : Sl .i32 w A0 n0 z0) (_b0 : ∀ z ∈ z0, -2147483648 ≤ z ∧ z ≤ 2147483647) (g0 : n0 ≤ c0) (m0 : c0 ≤ 35184372087808) (m1 : s1.size ≤ 140737488351232) :
    Calls Try.prog 3 #[.slice A0 n0 c0, .string s1] w fun e w' => e = .returned (.bool true) ∧ Nx w w' := by
  have LX := Lib.hid e0.len
  clear _b0
  go_enter Try.func3, Try.ntmps3
  go_wp2
  go_loop [5] (fun i => ∃ k : Nat, k ≤ n0 ∧ i = .int .i64 k ∧ Hid (∀ z ∈ z0.take k, goodB z = true)) (fun i => n0 - (intOf i).toNat)
  case atStart => exact ⟨0, Nat.zero_le _, rfl, by simp [Hid]⟩
  case round =>
    obtain ⟨k, hk, rfl, hgs⟩ := hrel
    by_cases hlt : k < n0
    · obtain ⟨b, off, u, rfl, hb, q1, hu⟩ := e0.at_ hlt
      by_cases hg : goodB u = true
      · have hs : Hid (∀ z ∈ z0.take (k + 1), goodB z = true) := good_snoc (by rw [LX.out]; exact hlt) hgs.out (by rw [hu.out]; exact hg)
        go_wp2_with (go_at_call 4; refine (good_any _ _).mono ?_; rintro e w' ⟨rfl, rfl⟩)
        go_round
        case rel => exact ⟨k + 1, by omega, by go_num, hs⟩
        case measure => simp [intOf]; omega
      · have hg' : goodB u = false := by simpa using hg
        clear hg
        go_wp2_with (go_at_call 4; refine (good_any _ _).mono ?_; rintro e w' ⟨rfl, rfl⟩)
        go_ret
        exact ⟨rfl, Nx.refl _⟩
    · have hall : Hid (∀ z ∈ z0, goodB z = true) := good_all LX.out (by omega) hgs.out
      clear hgs
      obtain rfl : k = n0 := by omega
      obtain ⟨X, hX⟩ : ∃ X, Hid (strOf (text z0) = X) := ⟨_, rfl⟩
      have hXs : X.size ≤ 140737488351232 := by have := (text_length z0).2; rw [← hX.out, strOf_size]; rw [LX.out] at this; omega
      have hXd : Hid (X.data.toList = text z0) := by show _ = _; rw [← hX.out, strOf_data]
      have hXY : Hid ((X ++ s1).data.toList = text z0 ++ s1.data.toList) := by show _ = _; rw [ByteArray.data_append, Array.toList_append, hXd.out]
      obtain ⟨T, hT⟩ : ∃ T, Hid (runesL s1.data.toList = T) := ⟨_, rfl⟩
      have hTl : T.length ≤ 140737488351232 := by have := runesL_len s1.data.toList; rw [hT.out, size_list] at this; omega
      have ct := Lib.hid fun W hx => text_any A0 k c0 z0 W hx (by omega)
      rw [hX.out] at ct
      have hr : Hid (runesL (text z0 ++ s1.data.toList) = z0 ++ T) := by show _ = _; rw [runesL_text z0 hall.out, hT.out]
      have cr := Lib.hid fun W h => runesOf_all (X ++ s1) W h
      rw [hXY.out, hr.out] at cr
      have cs := Lib.hid fun W h => runesOf_all s1 W h
      rw [hT.out] at cs
      go_wp2_with fail
      refine (ct.out _ e0).mono ?_
      rintro e w1 ⟨rfl, hn1⟩
      go_wp2_with fail
      refine (cr.out _ (by rw [List.length_append, LX.out]; omega)).mono ?_
      rintro e w2 ⟨A2, n2, c2, rfl, ho2, hn2⟩
      go_wp2_with fail
      refine (cs.out _ (by omega)).mono ?_
      rintro e w3 ⟨A3, n3, c3, rfl, ho3, hn3⟩
      have hln : n2 = k + n3 := by have h1 := ho2.len; have h2 := ho3.len; rw [List.length_append, LX.out] at h1; omega
      have hl3 : n3 ≤ 140737488351232 := by have h2 := ho3.len; omega
      have hne : ((n2 : Int) != (k : Int) + (n3 : Int)) = false := by simp; omega
      have hc2 := ho2.cap_.1
      have hL3 := Lib.hid ho3.len
      subst hln
      have hx3 := (hn1.trans hn2).trans hn3
      have i0 := e0.next hx3
      have o2 := ho2.sl.next hn3
      have f1 := o2.upto (j := k) (by omega)
      have f2 := o2.from_ (i := k) (cap := c2) (by omega) hc2
      have E1 : Hid ((z0 ++ T).take k = z0) := by show _ = _; rw [← LX.out, List.take_left]
      have E2 : Hid ((z0 ++ T).drop k = T) := by show _ = _; rw [← LX.out, List.drop_left]
      rw [E1.out] at f1
      rw [E2.out, show k + n3 - k = n3 by omega] at f2
      have hup := fun W => run_upto (P := Try.prog) 22 21 Try.underlying22 (fun _ => by kernel_rfl) A2 (k + n3) c2 .i64 (k : Int) k rfl (by omega) W
      have hcut := fun W => run_cut (P := Try.prog) 22 21 Try.underlying22 (fun _ => by kernel_rfl) A2 (k + n3) c2 .i64 (k : Int) k rfl (by omega) W
      rw [show k + n3 - k = n3 by omega] at hcut
      by_cases hs : 0 < s1.size
      · have h3 : ((n3 : Int) == 0) = false := by
          have : T ≠ [] := by
            intro h0
            have hne : s1.data.toList ≠ [] := by intro h; have := size_list s1; rw [h] at this; simp at this; omega
            have := hT.out
            unfold runesL at this
            rw [steps_cons _ hne] at this
            rw [h0] at this
            simp at this
          have hl : 0 < T.length := List.length_pos_iff.2 this
          have := hL3.out
          simp
          omega
        go_wp2_with fail
        refine (same_runes _ _ _ _ _ _ z0 z0 _ f1 i0 (by omega) (by omega)).mono ?_
        rintro e w4 ⟨rfl, hn4⟩
        rw [eqB_refl]
        go_wp2_with fail
        refine (same_runes _ _ _ _ _ _ T T _ (f2.next hn4) (ho3.sl.next hn4) (by omega) (by omega)).mono ?_
        rintro e w5 ⟨rfl, hn5⟩
        rw [eqB_refl]
        go_wp2_with fail
        go_ret
        exact ⟨rfl, (hx3.trans hn4).trans hn5⟩
      · have h3 : decide (0 < s1.size) = false := decide_eq_false hs
        go_wp2_with fail
        refine (same_runes _ _ _ _ _ _ z0 z0 _ f1 i0 (by omega) (by omega)).mono ?_
        rintro e w4 ⟨rfl, hn4⟩
        rw [eqB_refl]
        go_wp2_with fail
        refine (same_runes _ _ _ _ _ _ T T _ (f2.next hn4) (ho3.sl.next hn4) (by omega) (by omega)).mono ?_
        rintro e w5 ⟨rfl, hn5⟩
        rw [eqB_refl]
        go_wp2_with fail
        go_ret
        exact ⟨rfl, (hx3.trans hn4).trans hn5⟩
namespace fnRunesOfJoin
open Go.ChangeShapes Go.WideShapes Go.ChangeAt Go.RowKit
open Go.ChangeMaps (open_string shut_string)
set_option maxRecDepth 100000 in
set_option linter.unusedVariables false in
theorem lifted (os : Os) (started : os.Started) (H : Type) (enc : TypeId × Value → H) :
    ReturnsInHanded {} Try.checked os 3 .any (Rows.fnRunesOfJoinSpec.pre6 enc Try.prog Try.f3 Rows.fnRunesOfJoinRow.domain false) (Rows.fnRunesOfJoinSpec.post enc Try.prog Try.f3 false true false false) := by
  refine returnsInHanded_of_change_sized (C := Try.checked) own started (by kernel_rfl) Try.func3
    (ChangeSpec.witness6 (enc := enc) (C := Try.checked) false ⟨#[], #[.slice none 0 0, .string ⟨#[]⟩], []⟩ 8 (by kernel_rfl) (by kernel_rfl) (by kernel_rfl) (by kernel_rfl)) ?_
  intro W base args ds gs before hval0 hW hcnd hsz0 _
  have hsz : (DataW.weightsEach Try.prog (Try.f3.params.toList ++ Rows.fnRunesOfJoinSpec.plain.varTypes Try.prog) (ds ++ gs)).all (· ≤ reachBytes) = true := hsz0
  rw [Try.params3] at hsz
  have hval : ∀ (j : Nat) t v, Try.f3.params[j]? = some t → args[j]? = some v → Value.okWide Try.prog W .any base t v := hval0
  have hW' := hW
  obtain ⟨p, q, hA0, hV, rfl, hfz, hnd⟩ := hW
  have hA : DataW.TrodAll enc Try.prog W 0 (fun _ => true) true Try.f3.params.toList args.toList ds p := hA0
  rw [Try.params3] at hA hval
  obtain ⟨v0, vs0, d0, ds0, p0, q0, hargs, rfl, rfl, h0, r0⟩ := trodAll_cons hA
  obtain ⟨v1, vs1, d1, ds1, p1, q1, rfl, rfl, rfl, h1, r1⟩ := trodAll_cons r0
  obtain ⟨rfl, rfl, rfl⟩ := trodAll_nil r1
  obtain rfl : args = #[v0, v1] := by cases args; simp_all
  obtain ⟨rfl, rfl⟩ := trodVars_none hV
  have k0 := h0
  have lt0 : ∀ x ∈ p0, x.block < W.heap.size := by obtain ⟨m, hm⟩ := k0; exact DataW.trod_lt m _ _ _ hm
  obtain ⟨A0, n0, c0, zz0, rfl, e0, g0, m0, w0, u0⟩ := open_sl Try.underlying22 Try.underlying21 (by kernel_rfl) (hval 0 22 v0 rfl rfl) h0
  have b0 : ∀ z ∈ zz0, -2147483648 ≤ z ∧ z ≤ 2147483647 := fun z hz => by simpa [Lit.wf, IntKind.min, IntKind.max, IntKind.signed, IntKind.bits] using w0 z hz
  have z0 : c0 ≤ 35184372087808 := by have := held_size (j := 0) (t := 22) (b := 4) hsz (by kernel_rfl) (by rfl) rfl Try.underlying22 u0; omega
  have k1 := h1
  have lt1 : ∀ x ∈ p1, x.block < W.heap.size := by obtain ⟨m, hm⟩ := k1; exact DataW.trod_lt m _ _ _ hm
  obtain ⟨s1, rfl, rfl, rfl, w1⟩ := open_string Try.underlying9 (hval 1 9 v1 rfl rfl) h1
  have z1 : s1.size ≤ 140737488351232 := str_size (j := 1) (t := 9) hsz (by rfl) rfl
  clear hA0 hval0
  refine (fnRunesOfJoin_walk A0 n0 c0 zz0 s1 W e0 b0 g0 z0 z1).mono fun e W' ⟨he, bel⟩ => ?_
  subst he
  exact ⟨_, rfl, _, _, _, [], _, [], hW', trodAll_mk1 (shut_bool Try.underlying4 _), (trodAll_cons_mk (Below.trod laidOut (by kernel_rfl) (of_decide_eq_true (by kernel_rfl)) k0 bel.out lt0) (trodAll_cons_mk (shut_string Try.underlying9 w1) trodAll_mk0)), rfl, bel.out.frame _, fun h => by cases h⟩
theorem said : Rows.FnRunesOfJoinSaid :=
  OpenClaim.holds_of_wide 3 Try.f3 rfl rfl rfl rfl rfl rfl rfl ⟨rfl, rfl, rfl, rfl, rfl⟩ rfl rfl rfl rfl rfl (by kernel_rfl) Try.func3 (by kernel_rfl)
    (of_decide_eq_true (by kernel_rfl)) (by unfold Func.isWrapper; first | (rw [if_pos (by decide +kernel)]; kernel_rfl) | (rw [if_neg (by decide +kernel)]; exact ⟨rfl, rfl⟩))
    (fun os started H enc _ => lifted os started H enc)
end fnRunesOfJoin
end Go.Proofs.Yteloimkpkbcahaa
