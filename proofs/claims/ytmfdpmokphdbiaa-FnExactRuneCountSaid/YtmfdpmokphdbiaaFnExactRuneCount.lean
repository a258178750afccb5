/- FnExactRuneCount: RuneCount tells of every slice of at most 2^20 bytes what the reference tells, and leaves it as it was. No condition. -/
import Derived.Test.YtmfdpmokphdbiaaFrame
import Derived.Test.YtmfdpmokphdbiaaCount
import Derived.Test.YtmfdpmokphdbiaaToByteS
import Derived.Test.YtmfdpmokphdbiaaSame
namespace Go.Proofs.Ytmfdpmokphdbiaa
open Go.RowKit Go.Lib
set_option linter.unusedVariables false
set_option maxHeartbeats 1000000 in
theorem fnExactRuneCount_walk (A0 : Option Addr) (n0 c0 : Nat) (l0 : List UInt8) (w : World) (e0 : By w A0 n0 l0) (g0 : n0 ≤ c0) (m0 : c0 ≤ 140737488351232) :
    Calls Try.prog 9 #[.slice A0 n0 c0] w fun e w' => e = .returned (.bool true) ∧ Nx w w' := by
  by_cases hb : 1048576 < n0
  · go_enter Try.func9, Try.ntmps9
    go_wp2_with fail
    go_ret
    exact ⟨rfl, Nx.refl _⟩
  · have LX := Lib.hid e0.len
    obtain ⟨K, hK⟩ : ∃ K, Hid (cnt l0 = K) := ⟨_, rfl⟩
    have hKK : ((K : Int) != (K : Int)) = false := by simp
    go_enter Try.func9, Try.ntmps9
    go_wp2_with fail
    refine (toBytes_any _ _ _ l0 _ e0 (by omega)).mono ?_
    rintro e w1 ⟨A1, n1, c1, rfl, o1, x1⟩
    have hn1 : n1 ≤ n0 := by have := o1.len; rw [nums_length, LX.out] at this; omega
    go_wp2_with fail
    refine (specCount_any _ _ _ l0 _ o1.sl o1.cap_.1 (by omega)).mono ?_
    rw [hK.out]
    rintro e w2 ⟨rfl, x2⟩
    have y2 := x1.trans x2
    go_wp2_with fail
    refine (toBytes_any _ _ _ l0 _ (e0.next y2) (by omega)).mono ?_
    rintro e w3 ⟨A3, n3, c3, rfl, o3, x3⟩
    have hn3 : n3 ≤ n0 := by have := o3.len; rw [nums_length, LX.out] at this; omega
    go_wp2_with fail
    refine (count_any _ _ _ l0 _ o3.sl o3.cap_.1 (by omega)).mono ?_
    rw [hK.out]
    rintro e w4 ⟨rfl, x4⟩
    have y4 := (y2.trans x3).trans x4
    go_wp2_with fail
    refine (toBytes_any _ _ _ l0 _ (e0.next y4) (by omega)).mono ?_
    rintro e w5 ⟨A5, n5, c5, rfl, o5, x5⟩
    have hn5 : n5 ≤ n0 := by have := o5.len; rw [nums_length, LX.out] at this; omega
    go_wp2_with fail
    refine (eq_u8_by _ _ _ _ _ _ l0 l0 _ ((o3.sl.next x4).next x5) o5.sl (by omega) (by omega)).mono ?_
    rintro e w6 ⟨rfl, x6⟩
    rw [eqB_refl]
    go_wp2_with fail
    go_ret
    exact ⟨rfl, (y4.trans x5).trans x6⟩
namespace fnExactRuneCount
open Go.ChangeShapes Go.WideShapes Go.ChangeAt Go.RowKit
open Go.ChangeMaps (open_string shut_string)
set_option maxRecDepth 100000 in
set_option linter.unusedVariables false in
theorem lifted (os : Os) (started : os.Started) (H : Type) (enc : TypeId × Value → H) :
    ReturnsInHanded {} Try.checked os 9 .any (Rows.fnExactRuneCountSpec.pre6 enc Try.prog Try.f9 Rows.fnExactRuneCountRow.domain false) (Rows.fnExactRuneCountSpec.post enc Try.prog Try.f9 false true false false) := by
  refine returnsInHanded_of_change_sized (C := Try.checked) own started (by kernel_rfl) Try.func9
    (ChangeSpec.witness6 (enc := enc) (C := Try.checked) false ⟨#[], #[.slice none 0 0], []⟩ 8 (by kernel_rfl) (by kernel_rfl) (by kernel_rfl) (by kernel_rfl)) ?_
  intro W base args ds gs before hval0 hW hcnd hsz0 _
  have hsz : (DataW.weightsEach Try.prog (Try.f9.params.toList ++ Rows.fnExactRuneCountSpec.plain.varTypes Try.prog) (ds ++ gs)).all (· ≤ reachBytes) = true := hsz0
  rw [Try.params9] at hsz
  have hval : ∀ (j : Nat) t v, Try.f9.params[j]? = some t → args[j]? = some v → Value.okWide Try.prog W .any base t v := hval0
  have hW' := hW
  obtain ⟨p, q, hA0, hV, rfl, hfz, hnd⟩ := hW
  have hA : DataW.TrodAll enc Try.prog W 0 (fun _ => true) true Try.f9.params.toList args.toList ds p := hA0
  rw [Try.params9] at hA hval
  obtain ⟨v0, vs0, d0, ds0, p0, q0, hargs, rfl, rfl, h0, r0⟩ := trodAll_cons hA
  obtain ⟨rfl, rfl, rfl⟩ := trodAll_nil r0
  obtain rfl : args = #[v0] := by cases args; simp_all
  obtain ⟨rfl, rfl⟩ := trodVars_none hV
  have k0 := h0
  have lt0 : ∀ x ∈ p0, x.block < W.heap.size := by obtain ⟨m, hm⟩ := k0; exact DataW.trod_lt m _ _ _ hm
  obtain ⟨A0, n0, c0, l0, rfl, e0, g0, m0, u0⟩ := open_by Try.underlying35 Try.underlying5 (by kernel_rfl) (hval 0 35 v0 rfl rfl) h0
  have z0 : c0 ≤ 140737488351232 := by have := held_size (j := 0) (t := 35) (b := 1) hsz (by kernel_rfl) (by rfl) rfl Try.underlying35 u0; omega
  clear hA0 hval0
  refine (fnExactRuneCount_walk A0 n0 c0 l0 W e0 g0 z0).mono fun e W' ⟨he, bel⟩ => ?_
  subst he
  exact ⟨_, rfl, _, _, _, [], _, [], hW', trodAll_mk1 (shut_bool Try.underlying4 _), (trodAll_cons_mk (Below.trod laidOut (by kernel_rfl) (of_decide_eq_true (by kernel_rfl)) k0 bel.out lt0) trodAll_mk0), rfl, bel.out.frame _, fun h => by cases h⟩
theorem said : Rows.FnExactRuneCountSaid :=
  OpenClaim.holds_of_wide 9 Try.f9 rfl rfl rfl rfl rfl rfl rfl ⟨rfl, rfl, rfl, rfl, rfl⟩ rfl rfl rfl rfl rfl (by kernel_rfl) Try.func9 (by kernel_rfl)
    (of_decide_eq_true (by kernel_rfl)) (by unfold Func.isWrapper; first | (rw [if_pos (by decide +kernel)]; kernel_rfl) | (rw [if_neg (by decide +kernel)]; exact ⟨rfl, rfl⟩))
    (fun os started H enc _ => lifted os started H enc)
end fnExactRuneCount
end Go.Proofs.Ytmfdpmokphdbiaa
