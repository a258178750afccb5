/- FnStarts: there are at least as many runes as bytes that can be a first one, and just as many if the bytes are valid. The condition: what is read is of bulk at most 1048576. -/
import Derived.Test.YtmngajddmgigaaaFrame
import Derived.Test.YtmngajddmgigaaaCount
import Derived.Test.YtmngajddmgigaaaStart
import Derived.Test.YtmngajddmgigaaaSpecValid
namespace Go.Proofs.Ytmngajddmgigaaa
open Go.RowKit Go.Lib
set_option linter.unusedVariables false
set_option maxRecDepth 100000 in
set_option maxHeartbeats 1000000 in
theorem fnStarts_walk (A0 : Option Addr) (n0 c0 : Nat) (l0 : List UInt8) (w : World) (e0 : By w A0 n0 l0) (g0 : n0 ≤ c0) (m0 : c0 ≤ 1048576) :
    Calls Try.prog 6 #[.slice A0 n0 c0] w fun e w' => e = .returned (.bool true) ∧ Nx w w' := by
  have LX := Lib.hid e0.len
  obtain ⟨K, hK⟩ : ∃ K, Hid (cnt l0 = K) := ⟨_, rfl⟩
  have k1 : K ≤ n0 := by have := cnt_le l0; rw [hK.out, LX.out] at this; exact this
  have hz : Hid (n0 = 0 ∨ 0 < K) := by
    by_cases h : n0 = 0
    · exact Or.inl h
    · right
      rw [← hK.out]
      refine cnt_pos _ ?_
      intro h0
      have := LX.out
      rw [h0] at this
      simp at this
      omega
  obtain ⟨V, hV⟩ : ∃ V, Hid (validB l0 = V) := ⟨_, rfl⟩
  go_enter Try.func6, Try.ntmps6
  go_wp2_with fail
  go_loop [3, 4] (fun c i => ∃ (k s : Nat), k ≤ n0 ∧ s ≤ k ∧ i = .int .i64 k ∧ c = .int .i64 s ∧ Hid (starts (l0.take k) = s)) (fun _ i => n0 - (RowKit.intOf i).toNat)
  case atStart => exact ⟨0, 0, Nat.zero_le _, Nat.zero_le _, rfl, rfl, rfl⟩
  case round =>
    obtain ⟨k, s, hk, hs, rfl, rfl, hS⟩ := hrel
    by_cases hlt : k < n0
    · obtain ⟨b, off, u, rfl, hb, q1, u0, u1, hu⟩ := e0.at_ hlt
      have hst := starts_snoc l0 k (by rw [LX.out]; exact hlt)
      rw [hS.out] at hst
      have hsb := start_byte (l0.getD k 0)
      rw [hu.out] at hsb
      cases hB : startB u with
      | true =>
        have hS' : Hid (starts (l0.take (k + 1)) = s + 1) := by
          show _ = _
          rw [hB] at hsb
          have := of_decide_eq_true hsb.symm
          rw [hst, if_pos this]
        clear hst hsb
        go_wp2_with (go_at_call 21; refine (start_any u _ u0 (by omega)).mono ?_; rintro e w' ⟨rfl, rfl⟩)
        go_round
        case rel => exact ⟨k + 1, s + 1, by omega, by omega, by go_num, by go_num, hS'⟩
        case measure => simp [RowKit.intOf]; omega
      | false =>
        have hS' : Hid (starts (l0.take (k + 1)) = s) := by
          show _ = _
          rw [hB] at hsb
          have := of_decide_eq_false hsb.symm
          rw [hst, if_neg this, Nat.add_zero]
        clear hst hsb
        go_wp2_with (go_at_call 21; refine (start_any u _ u0 (by omega)).mono ?_; rintro e w' ⟨rfl, rfl⟩)
        go_round
        case rel => exact ⟨k + 1, s, by omega, by omega, by go_num, rfl, hS'⟩
        case measure => simp [RowKit.intOf]; omega
    · have hS' : Hid (starts l0 = s) := by
        show _ = _
        rw [← hS.out, List.take_of_length_le (by rw [LX.out]; omega)]
      have hle : s ≤ K := by rw [← hS'.out, ← hK.out]; exact starts_cnt l0
      have hval : Hid (validB l0 = true → K = s) := by
        show _ → _
        intro h
        rw [← hS'.out, ← hK.out]
        exact starts_valid h
      rcases hz.out with h | h
      · have h0 : ((n0 : Int) == 0) = true := by simp [h]
        clear h
        go_wp2_with fail
        refine (count_any _ _ _ l0 _ e0 g0 (by omega)).mono ?_
        rw [hK.out]
        rintro e w1 ⟨rfl, x1⟩
        go_wp2_with fail
        refine (specValid_any _ _ _ l0 _ (e0.next x1) g0 (by omega)).mono ?_
        rw [hV.out]
        rintro e w2 ⟨rfl, x2⟩
        have y := x1.trans x2
        cases hVV : V with
        | true =>
          have hsk : ((K : Int) == (s : Int)) = true := by have := hval.out (by rw [hV.out]; exact hVV); simp; omega
          go_wp2_with fail
          go_ret
          exact ⟨rfl, y⟩
        | false =>
          go_wp2_with fail
          go_ret
          exact ⟨rfl, y⟩
      · by_cases h' : n0 = 0
        · have h0 : ((n0 : Int) == 0) = true := by simp [h']
          clear h'
          go_wp2_with fail
          refine (count_any _ _ _ l0 _ e0 g0 (by omega)).mono ?_
          rw [hK.out]
          rintro e w1 ⟨rfl, x1⟩
          go_wp2_with fail
          refine (specValid_any _ _ _ l0 _ (e0.next x1) g0 (by omega)).mono ?_
          rw [hV.out]
          rintro e w2 ⟨rfl, x2⟩
          have y := x1.trans x2
          cases hVV : V with
          | true =>
            have hsk : ((K : Int) == (s : Int)) = true := by have := hval.out (by rw [hV.out]; exact hVV); simp; omega
            go_wp2_with fail
            go_ret
            exact ⟨rfl, y⟩
          | false =>
            go_wp2_with fail
            go_ret
            exact ⟨rfl, y⟩
        · have h0 : ((n0 : Int) == 0) = false := by simp [h']
          clear h'
          go_wp2_with fail
          refine (count_any _ _ _ l0 _ e0 g0 (by omega)).mono ?_
          rw [hK.out]
          rintro e w1 ⟨rfl, x1⟩
          go_wp2_with fail
          refine (specValid_any _ _ _ l0 _ (e0.next x1) g0 (by omega)).mono ?_
          rw [hV.out]
          rintro e w2 ⟨rfl, x2⟩
          have y := x1.trans x2
          cases hVV : V with
          | true =>
            have hsk : ((K : Int) == (s : Int)) = true := by have := hval.out (by rw [hV.out]; exact hVV); simp; omega
            go_wp2_with fail
            go_ret
            exact ⟨rfl, y⟩
          | false =>
            go_wp2_with fail
            go_ret
            exact ⟨rfl, y⟩
namespace fnStarts
open Go.ChangeShapes Go.WideShapes Go.ChangeAt Go.RowKit
open Go.ChangeMaps (open_string shut_string)
set_option maxRecDepth 100000 in
set_option linter.unusedVariables false in
theorem lifted (os : Os) (started : os.Started) (H : Type) (enc : TypeId × Value → H) (F : Stop.Interp) :
    ReturnsInHanded {} Try.checked os 6 .any ((Rows.OpenSpec.upto Rows.fnStartsSpec).pre6 enc Try.prog Try.f6 Rows.fnStartsUptoRow.domain false) (((Rows.OpenSpec.upto Rows.fnStartsSpec).at F).post enc Try.prog Try.f6 false true false false) := by
  refine returnsInHanded_of_cond (C := Try.checked) (s := Rows.OpenSpec.upto Rows.fnStartsSpec) (k := Rows.uptoSmall) rfl own started (by kernel_rfl) Try.func6
    (OpenSpec.witness (enc := enc) (C := Try.checked) (s := Rows.OpenSpec.upto Rows.fnStartsSpec) (k := Rows.uptoSmall) rfl false ⟨#[], #[.slice none 0 0], []⟩ 8 (by kernel_rfl) (by kernel_rfl) (by kernel_rfl)
      (x := ([.nil], [], [])) (by kernel_rfl) rfl (by kernel_rfl)) ?_
  intro W base args ds gs before hval0 hW _ hk _
  have hval : ∀ (j : Nat) t v, Try.f6.params[j]? = some t → args[j]? = some v → Value.okWide Try.prog W .any base t v := hval0
  have hW' := hW
  obtain ⟨p, q, hA0, hV, rfl, hfz, hnd⟩ := hW
  have hA : DataW.TrodAll enc Try.prog W 0 (fun _ => true) true Try.f6.params.toList args.toList ds p := hA0
  rw [Try.params6] at hA hval
  obtain ⟨v0, vs0, d0, ds0, p0, q0, hargs, rfl, rfl, h0, r0⟩ := trodAll_cons hA
  obtain ⟨rfl, rfl, rfl⟩ := trodAll_nil r0
  obtain rfl : args = #[v0] := by cases args; simp_all
  obtain ⟨rfl, rfl⟩ := trodVars_none hV
  have k0 := h0
  have lt0 : ∀ x ∈ p0, x.block < W.heap.size := by obtain ⟨m, hm⟩ := k0; exact DataW.trod_lt m _ _ _ hm
  obtain ⟨A0, n0, c0, l0, rfl, e0, g0, m0, u0⟩ := open_by Try.underlying22 Try.underlying5 (by kernel_rfl) (hval 0 22 v0 rfl rfl) h0
  have z0 : c0 ≤ 1048576 := by have := bulk_held u0; have hb := bulk_bound hk; simp only [Rows.uptoBulkAll, List.append_nil] at hb; omega
  clear hA0 hval0
  refine (fnStarts_walk A0 n0 c0 l0 W e0 g0 z0).mono fun e W' ⟨he, bel⟩ => ?_
  subst he
  exact ⟨_, rfl, _, _, _, [], _, [], hW', trodAll_mk1 (shut_bool Try.underlying4 _), (trodAll_cons_mk (Below.trod laidOut (by kernel_rfl) (of_decide_eq_true (by kernel_rfl)) k0 bel.out lt0) trodAll_mk0), rfl, bel.out.frame _, fun h => by cases h⟩
theorem said : Rows.FnStartsUptoSaid :=
  OpenClaim.holds_of_cond 6 Try.f6 rfl rfl rfl rfl rfl rfl rfl ⟨rfl, rfl, rfl, rfl, rfl⟩ rfl rfl rfl rfl rfl (by kernel_rfl) Try.func6 (by kernel_rfl)
    (of_decide_eq_true (by kernel_rfl)) (by unfold Func.isWrapper; first | (rw [if_pos (by decide +kernel)]; kernel_rfl) | (rw [if_neg (by decide +kernel)]; exact ⟨rfl, rfl⟩))
    (fun os started H enc _ F => lifted os started H enc F)
end fnStarts
end Go.Proofs.Ytmngajddmgigaaa
