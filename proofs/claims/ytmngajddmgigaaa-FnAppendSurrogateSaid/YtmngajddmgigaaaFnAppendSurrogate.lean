/- FnAppendSurrogate: AppendRune takes a surrogate half as RuneError. No condition. -/
import Derived.Test.YtmngajddmgigaaaFrame
import Derived.Test.YtmngajddmgigaaaGood
import Derived.Test.YtmngajddmgigaaaEncoding
import Derived.Test.YtmngajddmgigaaaAppend
import Derived.Test.YtmngajddmgigaaaJoined
import Derived.Test.YtmngajddmgigaaaSame
namespace Go.Proofs.Ytmngajddmgigaaa
open Go.RowKit Go.Lib
set_option linter.unusedVariables false
theorem sur_not_good {r : Int} (h : surB r = true) : goodB r = false := by
  rw [surB_iff] at h
  cases hg : goodB r with
  | false => rfl
  | true => rw [goodB_iff] at hg; omega
set_option maxHeartbeats 1000000 in
theorem fnAppendSurrogate_walk (A0 : Option Addr) (n0 c0 : Nat) (l0 : List UInt8) (a1 : Int) (w : World) (e0 : By w A0 n0 l0) (g0 : n0 ≤ c0) (m0 : c0 ≤ 140737488351232) (b1 : -2147483648 ≤ a1 ∧ a1 ≤ 2147483647) :
    Calls Try.prog 3 #[.slice A0 n0 c0, .int .i32 a1] w fun e w' => e = .returned (.bool true) ∧ Nx w w' := by
  obtain ⟨h1, h2⟩ := b1
  have LX := Lib.hid e0.len
  cases hs : surB a1 with
  | false =>
    go_enter Try.func3, Try.ntmps3
    go_wp2_with (go_at_call 13; refine (surrogate_any _ _).mono ?_; rintro e w' ⟨rfl, rfl⟩)
    go_ret
    exact ⟨rfl, Nx.refl _⟩
  | true =>
    have hg65 : goodB 65533 = true := by decide
    have HE := Lib.hid (enc_bad (sur_not_good hs))
    go_enter Try.func3, Try.ntmps3
    go_wp2_with (go_at_call 13; refine (surrogate_any _ _).mono ?_; rintro e w' ⟨rfl, rfl⟩)
    refine (append_any _ _ _ l0 _ _ e0 h1 h2 (by omega)).mono ?_
    rintro e w1 ⟨A1, n1, c1, rfl, o1, x1⟩
    go_wp2_with fail
    refine (encoding_any _ _ hg65).mono ?_
    rintro e w2 ⟨A2, n2, c2, rfl, o2, x2⟩
    have hn2 : n2 ≤ 4 := by have := o2.len; have h4 := enc_length 65533; rw [nums_length] at this; omega
    go_wp2_with fail
    refine (joined_any _ _ _ l0 _ _ _ (encodeRune 65533) _ ((e0.next x1).next x2) o2.sl (by omega)).mono ?_
    rintro e w3 ⟨A3, n3, c3, rfl, o3, x3⟩
    have hn1 : n1 ≤ n0 + 4 := by have := o1.len; have h4 := enc_length a1; rw [nums_length, List.length_append, LX.out] at this; omega
    have hn3 : n3 ≤ n0 + 4 := by have := o3.len; have h4 := enc_length 65533; rw [nums_length, List.length_append, LX.out] at this; omega
    go_wp2_with fail
    refine (same_u8_by _ _ _ _ _ _ (l0 ++ encodeRune a1) (l0 ++ encodeRune 65533) _ ((o1.sl.next x2).next x3) o3.sl (by omega) (by omega)).mono ?_
    rintro e w4 ⟨rfl, x4⟩
    rw [HE.out, eqB_refl]
    go_wp2_with fail
    go_ret
    exact ⟨rfl, ((x1.trans x2).trans x3).trans x4⟩
namespace fnAppendSurrogate
open Go.ChangeShapes Go.WideShapes Go.ChangeAt Go.RowKit
open Go.ChangeMaps (open_string shut_string)
set_option maxRecDepth 100000 in
set_option linter.unusedVariables false in
theorem lifted (os : Os) (started : os.Started) (H : Type) (enc : TypeId × Value → H) :
    ReturnsInHanded {} Try.checked os 3 .any (Rows.fnAppendSurrogateSpec.pre6 enc Try.prog Try.f3 Rows.fnAppendSurrogateRow.domain false) (Rows.fnAppendSurrogateSpec.post enc Try.prog Try.f3 false true false false) := by
  refine returnsInHanded_of_change_sized (C := Try.checked) own started (by kernel_rfl) Try.func3
    (ChangeSpec.witness6 (enc := enc) (C := Try.checked) false ⟨#[], #[.slice none 0 0, .int .i32 0], []⟩ 8 (by kernel_rfl) (by kernel_rfl) (by kernel_rfl) (by kernel_rfl)) ?_
  intro W base args ds gs before hval0 hW hcnd hsz0 _
  have hsz : (DataW.weightsEach Try.prog (Try.f3.params.toList ++ Rows.fnAppendSurrogateSpec.plain.varTypes Try.prog) (ds ++ gs)).all (· ≤ reachBytes) = true := hsz0
  rw [Try.params3] at hsz
  have hval : ∀ (j : Nat) t v, Try.f3.params[j]? = some t → args[j]? = some v → Value.okWide Try.prog W .any base t v := hval0
  have hW' := hW
  obtain ⟨p, q, hA0, hV, rfl, hfz, hnd⟩ := hW
  have hA : DataW.TrodAll enc Try.prog W 0 (fun _ => true) true Try.f3.params.toList args.toList ds p := hA0
  rw [Try.params3] at hA hval
  obtain ⟨v0, vs0, d0, ds0, p0, q0, hargs, rfl, rfl, h0, r0⟩ := trodAll_cons hA
  obtain ⟨v1, vs1, d1, ds1, p1, q1, rfl, rfl, rfl, h1, r1⟩ := trodAll_cons r0
  obtain ⟨rfl, rfl, rfl⟩ := trodAll_nil r1
  obtain rfl : args = #[v0, v1] := by cases args; simp_all
  obtain ⟨rfl, rfl⟩ := trodVars_none hV
  have k0 := h0
  have lt0 : ∀ x ∈ p0, x.block < W.heap.size := by obtain ⟨m, hm⟩ := k0; exact DataW.trod_lt m _ _ _ hm
  obtain ⟨A0, n0, c0, l0, rfl, e0, g0, m0, u0⟩ := open_by Try.underlying22 Try.underlying5 (by kernel_rfl) (hval 0 22 v0 rfl rfl) h0
  have z0 : c0 ≤ 140737488351232 := by have := held_size (j := 0) (t := 22) (b := 1) hsz (by kernel_rfl) (by rfl) rfl Try.underlying22 u0; omega
  have k1 := h1
  have lt1 : ∀ x ∈ p1, x.block < W.heap.size := by obtain ⟨m, hm⟩ := k1; exact DataW.trod_lt m _ _ _ hm
  obtain ⟨a1, rfl, rfl, rfl, w1⟩ := open_int Try.underlying21 (hval 1 21 v1 rfl rfl) h1
  have b1 : -2147483648 ≤ a1 ∧ a1 ≤ 2147483647 := by simpa [Lit.wf, IntKind.min, IntKind.max, IntKind.signed, IntKind.bits] using w1
  clear hA0 hval0
  refine (fnAppendSurrogate_walk A0 n0 c0 l0 a1 W e0 g0 z0 b1).mono fun e W' ⟨he, bel⟩ => ?_
  subst he
  exact ⟨_, rfl, _, _, _, [], _, [], hW', trodAll_mk1 (shut_bool Try.underlying4 _), (trodAll_cons_mk (Below.trod laidOut (by kernel_rfl) (of_decide_eq_true (by kernel_rfl)) k0 bel.out lt0) (trodAll_cons_mk (shut_int Try.underlying21 w1) trodAll_mk0)), rfl, bel.out.frame _, fun h => by cases h⟩
theorem said : Rows.FnAppendSurrogateSaid :=
  OpenClaim.holds_of_wide 3 Try.f3 rfl rfl rfl rfl rfl rfl rfl ⟨rfl, rfl, rfl, rfl, rfl⟩ rfl rfl rfl rfl rfl (by kernel_rfl) Try.func3 (by kernel_rfl)
    (of_decide_eq_true (by kernel_rfl)) (by unfold Func.isWrapper; first | (rw [if_pos (by decide +kernel)]; kernel_rfl) | (rw [if_neg (by decide +kernel)]; exact ⟨rfl, rfl⟩))
    (fun os started H enc _ => lifted os started H enc)
end fnAppendSurrogate
end Go.Proofs.Ytmngajddmgigaaa
