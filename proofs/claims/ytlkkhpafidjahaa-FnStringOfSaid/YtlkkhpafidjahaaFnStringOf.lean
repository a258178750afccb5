/- FnStringOf: runes that are converted to a string are their encodings, one behind the other, and each of them is that of the single rune. No condition. -/
import Derived.Test.YtlkkhpafidjahaaFrame
import Derived.Test.YtlkkhpafidjahaaText
import Derived.Test.YtlkkhpafidjahaaConv
namespace Go.Proofs.Ytlkkhpafidjahaa
open Go.RowKit Go.Lib
set_option maxHeartbeats 400000 in
theorem fnStringOf_walk (A0 : Option Addr) (n0 c0 : Nat) (z0 : List Int) (w : World) (e0 : Sl .i32 w A0 n0 z0) (_b0 : ∀ z ∈ z0, -2147483648 ≤ z ∧ z ≤ 2147483647) (_g0 : n0 ≤ c0) (m0 : c0 ≤ 35184372087808) :
    Calls Try.prog 10 #[.slice A0 n0 c0] w fun e w' => e = .returned (.bool true) ∧ Nx w w' := by
  have LX := Lib.hid e0.len
  clear _b0
  go_enter Try.func10, Try.ntmps10
  go_wp2
  go_loop [3, 4] (fun v i => ∃ (k : Nat) (S : ByteArray), k ≤ n0 ∧ i = .int .i64 k ∧ v = .string S ∧ Hid (S = strOf (text (z0.take k)))) (fun _ i => n0 - (intOf i).toNat)
  case atStart => exact ⟨0, ⟨#[]⟩, Nat.zero_le _, rfl, rfl, rfl⟩
  case round =>
    obtain ⟨k, S, hk, rfl, rfl, hS⟩ := hrel
    by_cases hlt : k < n0
    · obtain ⟨b, off, u, rfl, hb, c1, hu⟩ := e0.at_ hlt
      obtain ⟨E, hE⟩ : ∃ E, Hid (strOf (encodeRune u) = E) := ⟨_, rfl⟩
      have hsz : S.size + E.size ≤ 9223372036854775807 := by
        have h1 := text_take_le z0 k
        have h2 := (enc_length u).2
        rw [← hE.out, hS.out, strOf_size, strOf_size]
        omega
      have hs : Hid (S ++ E = strOf (text (z0.take (k + 1)))) := by
        show S ++ E = _
        rw [hS.out, ← hE.out, append_strOf, text_snoc z0 k (by rw [LX.out]; exact hlt), hu.out]
      have cs := Lib.hid fun w => stringOfRune_any u w
      rw [hE.out] at cs
      by_cases hg : surB u = true
      · go_wp2_with (first | (go_at_call 18; refine (surrogate_any _ _).mono ?_; rintro e w' ⟨rfl, rfl⟩) | (go_at_call 19; refine (cs.out _).mono ?_; rintro e w' ⟨rfl, rfl⟩))
        go_ret
        exact ⟨rfl, Nx.refl _⟩
      · have hg' : surB u = false := by simpa using hg
        clear hg
        go_wp2_with (first | (go_at_call 18; refine (surrogate_any _ _).mono ?_; rintro e w' ⟨rfl, rfl⟩) | (go_at_call 19; refine (cs.out _).mono ?_; rintro e w' ⟨rfl, rfl⟩))
        go_round
        case rel => exact ⟨k + 1, S ++ E, by omega, by go_num, rfl, hs⟩
        case measure => simp [intOf]; omega
    · have hST : Hid (strOf (text z0) = S) := by
        show strOf (text z0) = S
        rw [hS.out, List.take_of_length_le (by rw [LX.out]; omega)]
      have c1 := Lib.hid fun w hx => stringOf_any A0 n0 c0 z0 w hx
      have c2 := Lib.hid fun w hx => text_any A0 n0 c0 z0 w hx (by omega)
      rw [hST.out] at c1 c2
      go_wp2_with fail
      refine (c1.out _ e0).mono ?_
      rintro e w' ⟨rfl, rfl⟩
      go_wp2_with fail
      refine (c2.out _ e0).mono ?_
      rintro e w1 ⟨rfl, hn1⟩
      go_wp2_with fail
      refine (c2.out _ (e0.next hn1)).mono ?_
      rintro e w2 ⟨rfl, hn2⟩
      go_wp2_with fail
      go_ret
      exact ⟨ret_bool (by simp), hn1.trans hn2⟩
namespace fnStringOf
open Go.ChangeShapes Go.WideShapes Go.ChangeAt Go.RowKit
open Go.ChangeMaps (open_string shut_string)
set_option maxRecDepth 100000 in
set_option linter.unusedVariables false in
theorem lifted (os : Os) (started : os.Started) (H : Type) (enc : TypeId × Value → H) :
    ReturnsInHanded {} Try.checked os 10 .any (Rows.fnStringOfSpec.pre6 enc Try.prog Try.f10 Rows.fnStringOfRow.domain false) (Rows.fnStringOfSpec.post enc Try.prog Try.f10 false true false false) := by
  refine returnsInHanded_of_change_sized (C := Try.checked) own started (by kernel_rfl) Try.func10
    (ChangeSpec.witness6 (enc := enc) (C := Try.checked) false ⟨#[], #[.slice none 0 0], []⟩ 8 (by kernel_rfl) (by kernel_rfl) (by kernel_rfl) (by kernel_rfl)) ?_
  intro W base args ds gs before hval0 hW hcnd hsz0 _
  have hsz : (DataW.weightsEach Try.prog (Try.f10.params.toList ++ Rows.fnStringOfSpec.plain.varTypes Try.prog) (ds ++ gs)).all (· ≤ reachBytes) = true := hsz0
  rw [Try.params10] at hsz
  have hval : ∀ (j : Nat) t v, Try.f10.params[j]? = some t → args[j]? = some v → Value.okWide Try.prog W .any base t v := hval0
  have hW' := hW
  obtain ⟨p, q, hA0, hV, rfl, hfz, hnd⟩ := hW
  have hA : DataW.TrodAll enc Try.prog W 0 (fun _ => true) true Try.f10.params.toList args.toList ds p := hA0
  rw [Try.params10] at hA hval
  obtain ⟨v0, vs0, d0, ds0, p0, q0, hargs, rfl, rfl, h0, r0⟩ := trodAll_cons hA
  obtain ⟨rfl, rfl, rfl⟩ := trodAll_nil r0
  obtain rfl : args = #[v0] := by cases args; simp_all
  obtain ⟨rfl, rfl⟩ := trodVars_none hV
  have k0 := h0
  have lt0 : ∀ x ∈ p0, x.block < W.heap.size := by obtain ⟨m, hm⟩ := k0; exact DataW.trod_lt m _ _ _ hm
  obtain ⟨A0, n0, c0, zz0, rfl, e0, g0, m0, w0, u0⟩ := open_sl Try.underlying22 Try.underlying21 (by kernel_rfl) (hval 0 22 v0 rfl rfl) h0
  have b0 : ∀ z ∈ zz0, -2147483648 ≤ z ∧ z ≤ 2147483647 := fun z hz => by simpa [Lit.wf, IntKind.min, IntKind.max, IntKind.signed, IntKind.bits] using w0 z hz
  have z0 : c0 ≤ 35184372087808 := by have := held_size (j := 0) (t := 22) (b := 4) hsz (by kernel_rfl) (by rfl) rfl Try.underlying22 u0; omega
  clear hA0 hval0
  refine (fnStringOf_walk A0 n0 c0 zz0 W e0 b0 g0 z0).mono fun e W' ⟨he, bel⟩ => ?_
  subst he
  exact ⟨_, rfl, _, _, _, [], _, [], hW', trodAll_mk1 (shut_bool Try.underlying4 _), (trodAll_cons_mk (Below.trod laidOut (by kernel_rfl) (of_decide_eq_true (by kernel_rfl)) k0 bel.out lt0) trodAll_mk0), rfl, bel.out.frame _, fun h => by cases h⟩
theorem said : Rows.FnStringOfSaid :=
  OpenClaim.holds_of_wide 10 Try.f10 rfl rfl rfl rfl rfl rfl rfl ⟨rfl, rfl, rfl, rfl, rfl⟩ rfl rfl rfl rfl rfl (by kernel_rfl) Try.func10 (by kernel_rfl)
    (of_decide_eq_true (by kernel_rfl)) (by unfold Func.isWrapper; first | (rw [if_pos (by decide +kernel)]; kernel_rfl) | (rw [if_neg (by decide +kernel)]; exact ⟨rfl, rfl⟩))
    (fun os started H enc _ => lifted os started H enc)
end fnStringOf
end Go.Proofs.Ytlkkhpafidjahaa
