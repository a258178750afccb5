/- FnCountBounds: there are not more runes than bytes, and at least one for every four bytes. No condition. -/
import Derived.Test.YtmngajddmgigaaaFrame
import Derived.Test.YtmngajddmgigaaaCount
namespace Go.Proofs.Ytmngajddmgigaaa
open Go.RowKit Go.Lib
set_option linter.unusedVariables false
set_option maxRecDepth 100000 in
set_option maxHeartbeats 1000000 in
theorem fnCountBounds_walk (A0 : Option Addr) (n0 c0 : Nat) (l0 : List UInt8) (w : World) (e0 : By w A0 n0 l0) (g0 : n0 ≤ c0) (m0 : c0 ≤ 140737488351232) :
    Calls Try.prog 5 #[.slice A0 n0 c0] w fun e w' => e = .returned (.bool true) ∧ Nx w w' := by
  have LX := Lib.hid e0.len
  by_cases hb : 1000000000 < n0
  · go_enter Try.func5, Try.ntmps5
    go_wp2_with fail
    go_ret
    exact ⟨rfl, Nx.refl _⟩
  · obtain ⟨k, hk⟩ : ∃ K, Hid (cnt l0 = K) := ⟨_, rfl⟩
    have k1 : k ≤ n0 := by have := cnt_le l0; rw [hk.out, LX.out] at this; exact this
    have k4 : n0 ≤ 4 * k := by have := cnt_four l0; rw [hk.out, LX.out] at this; exact this
    obtain ⟨X, hX⟩ : ∃ X, Hid (strOf l0 = X) := ⟨_, rfl⟩
    have hXs : X.size = n0 := by rw [← hX.out, strOf_size, LX.out]
    have cs := Lib.hid fun w h => countS_any X w h
    have hc : cnt X.data.toList = k := by rw [← hX.out, strOf_data, hk.out]
    rw [hc] at cs
    have hkk : ((k : Int) == (k : Int)) = true := by simp
    go_enter Try.func5, Try.ntmps5
    go_wp2_with fail
    refine (count_any _ _ _ l0 _ e0 g0 (by omega)).mono ?_
    rw [hk.out]
    rintro e w1 ⟨rfl, x1⟩
    have t1 := run_bytes_str (P := Try.prog) 22 9 5 Try.underlying22 Try.underlying5 Try.underlying9 w1 A0 n0 c0 _ (e0.next x1)
    rw [hX.out] at t1
    go_wp2_with fail
    refine (cs.out _ (by omega)).mono ?_
    rintro e w2 ⟨rfl, x2⟩
    go_wp2_with fail
    go_ret
    exact ⟨rfl, x1.trans x2⟩
namespace fnCountBounds
open Go.ChangeShapes Go.WideShapes Go.ChangeAt Go.RowKit
open Go.ChangeMaps (open_string shut_string)
set_option maxRecDepth 100000 in
set_option linter.unusedVariables false in
theorem lifted (os : Os) (started : os.Started) (H : Type) (enc : TypeId × Value → H) :
    ReturnsInHanded {} Try.checked os 5 .any (Rows.fnCountBoundsSpec.pre6 enc Try.prog Try.f5 Rows.fnCountBoundsRow.domain false) (Rows.fnCountBoundsSpec.post enc Try.prog Try.f5 false true false false) := by
  refine returnsInHanded_of_change_sized (C := Try.checked) own started (by kernel_rfl) Try.func5
    (ChangeSpec.witness6 (enc := enc) (C := Try.checked) false ⟨#[], #[.slice none 0 0], []⟩ 8 (by kernel_rfl) (by kernel_rfl) (by kernel_rfl) (by kernel_rfl)) ?_
  intro W base args ds gs before hval0 hW hcnd hsz0 _
  have hsz : (DataW.weightsEach Try.prog (Try.f5.params.toList ++ Rows.fnCountBoundsSpec.plain.varTypes Try.prog) (ds ++ gs)).all (· ≤ reachBytes) = true := hsz0
  rw [Try.params5] at hsz
  have hval : ∀ (j : Nat) t v, Try.f5.params[j]? = some t → args[j]? = some v → Value.okWide Try.prog W .any base t v := hval0
  have hW' := hW
  obtain ⟨p, q, hA0, hV, rfl, hfz, hnd⟩ := hW
  have hA : DataW.TrodAll enc Try.prog W 0 (fun _ => true) true Try.f5.params.toList args.toList ds p := hA0
  rw [Try.params5] at hA hval
  obtain ⟨v0, vs0, d0, ds0, p0, q0, hargs, rfl, rfl, h0, r0⟩ := trodAll_cons hA
  obtain ⟨rfl, rfl, rfl⟩ := trodAll_nil r0
  obtain rfl : args = #[v0] := by cases args; simp_all
  obtain ⟨rfl, rfl⟩ := trodVars_none hV
  have k0 := h0
  have lt0 : ∀ x ∈ p0, x.block < W.heap.size := by obtain ⟨m, hm⟩ := k0; exact DataW.trod_lt m _ _ _ hm
  obtain ⟨A0, n0, c0, l0, rfl, e0, g0, m0, u0⟩ := open_by Try.underlying22 Try.underlying5 (by kernel_rfl) (hval 0 22 v0 rfl rfl) h0
  have z0 : c0 ≤ 140737488351232 := by have := held_size (j := 0) (t := 22) (b := 1) hsz (by kernel_rfl) (by rfl) rfl Try.underlying22 u0; omega
  clear hA0 hval0
  refine (fnCountBounds_walk A0 n0 c0 l0 W e0 g0 z0).mono fun e W' ⟨he, bel⟩ => ?_
  subst he
  exact ⟨_, rfl, _, _, _, [], _, [], hW', trodAll_mk1 (shut_bool Try.underlying4 _), (trodAll_cons_mk (Below.trod laidOut (by kernel_rfl) (of_decide_eq_true (by kernel_rfl)) k0 bel.out lt0) trodAll_mk0), rfl, bel.out.frame _, fun h => by cases h⟩
theorem said : Rows.FnCountBoundsSaid :=
  OpenClaim.holds_of_wide 5 Try.f5 rfl rfl rfl rfl rfl rfl rfl ⟨rfl, rfl, rfl, rfl, rfl⟩ rfl rfl rfl rfl rfl (by kernel_rfl) Try.func5 (by kernel_rfl)
    (of_decide_eq_true (by kernel_rfl)) (by unfold Func.isWrapper; first | (rw [if_pos (by decide +kernel)]; kernel_rfl) | (rw [if_neg (by decide +kernel)]; exact ⟨rfl, rfl⟩))
    (fun os started H enc _ => lifted os started H enc)
end fnCountBounds
end Go.Proofs.Ytmngajddmgigaaa
