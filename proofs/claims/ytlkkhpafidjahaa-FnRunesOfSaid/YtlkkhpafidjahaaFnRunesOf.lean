/- FnRunesOf: a text of good runes is converted to these runes. No condition. -/
import Derived.Test.YtlkkhpafidjahaaFrame
import Derived.Test.YtlkkhpafidjahaaText
import Derived.Test.YtlkkhpafidjahaaConv
import Derived.Test.YtlkkhpafidjahaaSame
namespace Go.Proofs.Ytlkkhpafidjahaa
open Go.RowKit Go.Lib
theorem runesOf_text (zs : List Int) (w : World) (hg : ∀ z ∈ zs, goodB z = true) (hn : zs.length ≤ 35184372088832) : Calls Try.prog 15 #[.string (strOf (text zs))] w (NewS .i32 21 zs w) := by
  have := runesOf_any (strOf (text zs)) w (by rw [strOf_data, runesL_text' zs hg]; omega)
  rwa [strOf_data, runesL_text' zs hg] at this
set_option maxHeartbeats 400000 in
theorem fnRunesOf_walk (A0 : Option Addr) (n0 c0 : Nat) (z0 : List Int) (w : World) (e0 : Sl .i32 w A0 n0 z0) (_b0 : ∀ z ∈ z0, -2147483648 ≤ z ∧ z ≤ 2147483647) (_g0 : n0 ≤ c0) (m0 : c0 ≤ 35184372087808) :
    Calls Try.prog 4 #[.slice A0 n0 c0] w fun e w' => e = .returned (.bool true) ∧ Nx w w' := by
  have LX := Lib.hid e0.len
  clear _b0
  go_enter Try.func4, Try.ntmps4
  go_wp2
  go_loop [3] (fun i => ∃ k : Nat, k ≤ n0 ∧ i = .int .i64 k ∧ Hid (∀ z ∈ z0.take k, goodB z = true)) (fun i => n0 - (intOf i).toNat)
  case atStart => exact ⟨0, Nat.zero_le _, rfl, by simp [Hid]⟩
  case round =>
    obtain ⟨k, hk, rfl, hgs⟩ := hrel
    by_cases hlt : k < n0
    · obtain ⟨b, off, u, rfl, hb, c1, hu⟩ := e0.at_ hlt
      by_cases hg : goodB u = true
      · have hs : Hid (∀ z ∈ z0.take (k + 1), goodB z = true) := good_snoc (by rw [LX.out]; exact hlt) hgs.out (by rw [hu.out]; exact hg)
        go_wp2_with (go_at_call 12; refine (good_any _ _).mono ?_; rintro e w' ⟨rfl, rfl⟩)
        go_round
        case rel => exact ⟨k + 1, by omega, by go_num, hs⟩
        case measure => simp [intOf]; omega
      · have hg' : goodB u = false := by simpa using hg
        clear hg
        go_wp2_with (go_at_call 12; refine (good_any _ _).mono ?_; rintro e w' ⟨rfl, rfl⟩)
        go_ret
        exact ⟨rfl, Nx.refl _⟩
    · have hall : Hid (∀ z ∈ z0, goodB z = true) := good_all LX.out (by omega) hgs.out
      go_wp2_with fail
      refine (text_any _ _ _ z0 _ e0 (by omega)).mono ?_
      rintro e w1 ⟨rfl, hn1⟩
      go_wp2_with fail
      refine (runesOf_text z0 _ hall.out (by rw [LX.out]; omega)).mono ?_
      rintro e w2 ⟨A2, n2, c2, rfl, ho2, hn2⟩
      go_wp2_with fail
      refine (same_runes _ _ _ _ _ _ z0 z0 _ ho2.sl ((e0.next hn1).next hn2) (by rw [ho2.len, LX.out]; omega) (by omega)).mono ?_
      rintro e w3 ⟨rfl, hn3⟩
      rw [eqB_refl]
      go_wp2
      go_ret
      exact ⟨rfl, (hn1.trans hn2).trans hn3⟩
namespace fnRunesOf
open Go.ChangeShapes Go.WideShapes Go.ChangeAt Go.RowKit
open Go.ChangeMaps (open_string shut_string)
set_option maxRecDepth 100000 in
set_option linter.unusedVariables false in
theorem lifted (os : Os) (started : os.Started) (H : Type) (enc : TypeId × Value → H) :
    ReturnsInHanded {} Try.checked os 4 .any (Rows.fnRunesOfSpec.pre6 enc Try.prog Try.f4 Rows.fnRunesOfRow.domain false) (Rows.fnRunesOfSpec.post enc Try.prog Try.f4 false true false false) := by
  refine returnsInHanded_of_change_sized (C := Try.checked) own started (by kernel_rfl) Try.func4
    (ChangeSpec.witness6 (enc := enc) (C := Try.checked) false ⟨#[], #[.slice none 0 0], []⟩ 8 (by kernel_rfl) (by kernel_rfl) (by kernel_rfl) (by kernel_rfl)) ?_
  intro W base args ds gs before hval0 hW hcnd hsz0 _
  have hsz : (DataW.weightsEach Try.prog (Try.f4.params.toList ++ Rows.fnRunesOfSpec.plain.varTypes Try.prog) (ds ++ gs)).all (· ≤ reachBytes) = true := hsz0
  rw [Try.params4] at hsz
  have hval : ∀ (j : Nat) t v, Try.f4.params[j]? = some t → args[j]? = some v → Value.okWide Try.prog W .any base t v := hval0
  have hW' := hW
  obtain ⟨p, q, hA0, hV, rfl, hfz, hnd⟩ := hW
  have hA : DataW.TrodAll enc Try.prog W 0 (fun _ => true) true Try.f4.params.toList args.toList ds p := hA0
  rw [Try.params4] at hA hval
  obtain ⟨v0, vs0, d0, ds0, p0, q0, hargs, rfl, rfl, h0, r0⟩ := trodAll_cons hA
  obtain ⟨rfl, rfl, rfl⟩ := trodAll_nil r0
  obtain rfl : args = #[v0] := by cases args; simp_all
  obtain ⟨rfl, rfl⟩ := trodVars_none hV
  have k0 := h0
  have lt0 : ∀ x ∈ p0, x.block < W.heap.size := by obtain ⟨m, hm⟩ := k0; exact DataW.trod_lt m _ _ _ hm
  obtain ⟨A0, n0, c0, zz0, rfl, e0, g0, m0, w0, u0⟩ := open_sl Try.underlying22 Try.underlying21 (by kernel_rfl) (hval 0 22 v0 rfl rfl) h0
  have b0 : ∀ z ∈ zz0, -2147483648 ≤ z ∧ z ≤ 2147483647 := fun z hz => by simpa [Lit.wf, IntKind.min, IntKind.max, IntKind.signed, IntKind.bits] using w0 z hz
  have z0 : c0 ≤ 35184372087808 := by have := held_size (j := 0) (t := 22) (b := 4) hsz (by kernel_rfl) (by rfl) rfl Try.underlying22 u0; omega
  clear hA0 hval0
  refine (fnRunesOf_walk A0 n0 c0 zz0 W e0 b0 g0 z0).mono fun e W' ⟨he, bel⟩ => ?_
  subst he
  exact ⟨_, rfl, _, _, _, [], _, [], hW', trodAll_mk1 (shut_bool Try.underlying4 _), (trodAll_cons_mk (Below.trod laidOut (by kernel_rfl) (of_decide_eq_true (by kernel_rfl)) k0 bel.out lt0) trodAll_mk0), rfl, bel.out.frame _, fun h => by cases h⟩
theorem said : Rows.FnRunesOfSaid :=
  OpenClaim.holds_of_wide 4 Try.f4 rfl rfl rfl rfl rfl rfl rfl ⟨rfl, rfl, rfl, rfl, rfl⟩ rfl rfl rfl rfl rfl (by kernel_rfl) Try.func4 (by kernel_rfl)
    (of_decide_eq_true (by kernel_rfl)) (by unfold Func.isWrapper; first | (rw [if_pos (by decide +kernel)]; kernel_rfl) | (rw [if_neg (by decide +kernel)]; exact ⟨rfl, rfl⟩))
    (fun os started H enc _ => lifted os started H enc)
end fnRunesOf
end Go.Proofs.Ytlkkhpafidjahaa
