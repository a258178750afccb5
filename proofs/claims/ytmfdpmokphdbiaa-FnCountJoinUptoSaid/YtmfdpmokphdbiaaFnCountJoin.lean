/- FnCountJoin: where bytes are cut behind a valid text, the numbers of runes are added; anywhere else at most three are lost when they are joined. The condition: what is read is of bulk at most 1048576. -/
import Derived.Test.YtmfdpmokphdbiaaFrame
import Derived.Test.YtmfdpmokphdbiaaCount
import Derived.Test.YtmfdpmokphdbiaaJoined
import Derived.Test.YtmfdpmokphdbiaaSpecValid
namespace Go.Proofs.Ytmfdpmokphdbiaa
open Go.RowKit Go.Lib
set_option linter.unusedVariables false
set_option maxRecDepth 100000 in
set_option maxHeartbeats 1000000 in
theorem fnCountJoin_walk (A0 : Option Addr) (n0 c0 : Nat) (l0 : List UInt8) (A1 : Option Addr) (n1 c1 : Nat) (l1 : List UInt8) (w : World) (e0 : By w A0 n0 l0) (g0 : n0 ≤ c0) (m0 : c0 ≤ 1048576)
    (e1 : By w A1 n1 l1) (g1 : n1 ≤ c1) (m1 : c1 ≤ 1048576) (_hu : c0 + c1 ≤ 1048576) :
    Calls Try.prog 8 #[.slice A0 n0 c0, .slice A1 n1 c1] w fun e w' => e = .returned (.bool true) ∧ Nx w w' := by
  have LX := Lib.hid e0.len
  have LY := Lib.hid e1.len
  obtain ⟨a, ha⟩ : ∃ K, Hid (cnt l0 = K) := ⟨_, rfl⟩
  obtain ⟨b, hb⟩ : ∃ K, Hid (cnt l1 = K) := ⟨_, rfl⟩
  obtain ⟨c, hc⟩ : ∃ K, Hid (cnt (l0 ++ l1) = K) := ⟨_, rfl⟩
  have hab : a ≤ n0 := by have := cnt_le l0; rw [ha.out, LX.out] at this; exact this
  have hbb : b ≤ n1 := by have := cnt_le l1; rw [hb.out, LY.out] at this; exact this
  have hj := cnt_join l0 l1
  rw [ha.out, hb.out, hc.out] at hj
  obtain ⟨hj1, hj2⟩ := hj
  have hz : Hid (n0 + n1 = 0 ∨ 0 < c) := by
    by_cases h : n0 + n1 = 0
    · exact Or.inl h
    · right
      rw [← hc.out]
      refine cnt_pos _ ?_
      intro h0
      have := congrArg List.length h0
      rw [List.length_append, LX.out, LY.out] at this
      simp at this
      omega
  obtain ⟨V, hV⟩ : ∃ V, Hid (validB l0 = V) := ⟨_, rfl⟩
  go_enter Try.func8, Try.ntmps8
  go_wp2_with fail
  refine (count_any _ _ _ l0 _ e0 g0 (by omega)).mono ?_
  rw [ha.out]
  rintro e w1 ⟨rfl, x1⟩
  go_wp2_with fail
  refine (count_any _ _ _ l1 _ (e1.next x1) g1 (by omega)).mono ?_
  rw [hb.out]
  rintro e w2 ⟨rfl, x2⟩
  have y2 := x1.trans x2
  go_wp2_with fail
  refine (joined_any _ _ _ l0 _ _ _ l1 _ (e0.next y2) (e1.next y2) (by omega)).mono ?_
  rintro e w3 ⟨A3, n3, c3, rfl, o3, x3⟩
  have hn3 : n3 = n0 + n1 := by have := o3.len; rw [nums_length, List.length_append, LX.out, LY.out] at this; exact this
  subst hn3
  go_wp2_with fail
  refine (count_any _ _ _ (l0 ++ l1) _ o3.sl o3.cap_.1 (by omega)).mono ?_
  rw [hc.out]
  rintro e w4 ⟨rfl, x4⟩
  have y4 := (y2.trans x3).trans x4
  go_wp2_with fail
  refine (specValid_any _ _ _ l0 _ (e0.next y4) g0 (by omega)).mono ?_
  rw [hV.out]
  rintro e w5 ⟨rfl, x5⟩
  have y5 := y4.trans x5
  cases hVV : V with
  | true =>
    have hs : c = a + b := by
      have := cnt_valid (p := l0) (by rw [hV.out]; exact hVV) l1
      rw [ha.out, hb.out, hc.out] at this
      exact this
    have hne : ((c : Int) != (a : Int) + (b : Int)) = false := by simp; omega
    clear hs
    by_cases h : n0 + n1 = 0
    · have h0 : ((n0 : Int) + (n1 : Int) == 0) = true := by simp; omega
      clear h
      go_wp2_with fail
      go_ret
      exact ⟨rfl, y5⟩
    · have h0 : ((n0 : Int) + (n1 : Int) == 0) = false := by simp; omega
      have hcp : 0 < c := by have := hz.out; omega
      clear h
      go_wp2_with fail
      go_ret
      exact ⟨rfl, y5⟩
  | false =>
    by_cases h : n0 + n1 = 0
    · have h0 : ((n0 : Int) + (n1 : Int) == 0) = true := by simp; omega
      clear h
      go_wp2_with fail
      go_ret
      exact ⟨rfl, y5⟩
    · have h0 : ((n0 : Int) + (n1 : Int) == 0) = false := by simp; omega
      have hcp : 0 < c := by have := hz.out; omega
      clear h
      go_wp2_with fail
      go_ret
      exact ⟨rfl, y5⟩
namespace fnCountJoin
open Go.ChangeShapes Go.WideShapes Go.ChangeAt Go.RowKit
open Go.ChangeMaps (open_string shut_string)
set_option maxRecDepth 100000 in
set_option linter.unusedVariables false in
theorem lifted (os : Os) (started : os.Started) (H : Type) (enc : TypeId × Value → H) (F : Stop.Interp) :
    ReturnsInHanded {} Try.checked os 8 .any ((Rows.OpenSpec.upto Rows.fnCountJoinSpec).pre6 enc Try.prog Try.f8 Rows.fnCountJoinUptoRow.domain false) (((Rows.OpenSpec.upto Rows.fnCountJoinSpec).at F).post enc Try.prog Try.f8 false true false false) := by
  refine returnsInHanded_of_cond (C := Try.checked) (s := Rows.OpenSpec.upto Rows.fnCountJoinSpec) (k := Rows.uptoSmall) rfl own started (by kernel_rfl) Try.func8
    (OpenSpec.witness (enc := enc) (C := Try.checked) (s := Rows.OpenSpec.upto Rows.fnCountJoinSpec) (k := Rows.uptoSmall) rfl false ⟨#[], #[.slice none 0 0, .slice none 0 0], []⟩ 8 (by kernel_rfl) (by kernel_rfl) (by kernel_rfl)
      (x := ([.nil, .nil], [], [])) (by kernel_rfl) rfl (by kernel_rfl)) ?_
  intro W base args ds gs before hval0 hW _ hk _
  have hval : ∀ (j : Nat) t v, Try.f8.params[j]? = some t → args[j]? = some v → Value.okWide Try.prog W .any base t v := hval0
  have hW' := hW
  obtain ⟨p, q, hA0, hV, rfl, hfz, hnd⟩ := hW
  have hA : DataW.TrodAll enc Try.prog W 0 (fun _ => true) true Try.f8.params.toList args.toList ds p := hA0
  rw [Try.params8] at hA hval
  obtain ⟨v0, vs0, d0, ds0, p0, q0, hargs, rfl, rfl, h0, r0⟩ := trodAll_cons hA
  obtain ⟨v1, vs1, d1, ds1, p1, q1, rfl, rfl, rfl, h1, r1⟩ := trodAll_cons r0
  obtain ⟨rfl, rfl, rfl⟩ := trodAll_nil r1
  obtain rfl : args = #[v0, v1] := by cases args; simp_all
  obtain ⟨rfl, rfl⟩ := trodVars_none hV
  have k0 := h0
  have lt0 : ∀ x ∈ p0, x.block < W.heap.size := by obtain ⟨m, hm⟩ := k0; exact DataW.trod_lt m _ _ _ hm
  obtain ⟨A0, n0, c0, l0, rfl, e0, g0, m0, u0⟩ := open_by Try.underlying35 Try.underlying5 (by kernel_rfl) (hval 0 35 v0 rfl rfl) h0
  have z0 : c0 ≤ 1048576 := by have := bulk_held u0; have hb := bulk_bound hk; simp only [Rows.uptoBulkAll, List.append_nil] at hb; omega
  have k1 := h1
  have lt1 : ∀ x ∈ p1, x.block < W.heap.size := by obtain ⟨m, hm⟩ := k1; exact DataW.trod_lt m _ _ _ hm
  obtain ⟨A1, n1, c1, l1, rfl, e1, g1, m1, u1⟩ := open_by Try.underlying35 Try.underlying5 (by kernel_rfl) (hval 1 35 v1 rfl rfl) h1
  have z1 : c1 ≤ 1048576 := by have := bulk_held u1; have hb := bulk_bound hk; simp only [Rows.uptoBulkAll, List.append_nil] at hb; omega
  have hu : c0 + c1 ≤ 1048576 := by have q0 := bulk_held u0; have q1 := bulk_held u1; have hb := bulk_bound hk; simp only [Rows.uptoBulkAll, List.append_nil] at hb; omega
  clear hA0 hval0
  refine (fnCountJoin_walk A0 n0 c0 l0 A1 n1 c1 l1 W e0 g0 z0 e1 g1 z1 hu).mono fun e W' ⟨he, bel⟩ => ?_
  subst he
  exact ⟨_, rfl, _, _, _, [], _, [], hW', trodAll_mk1 (shut_bool Try.underlying4 _), (trodAll_cons_mk (Below.trod laidOut (by kernel_rfl) (of_decide_eq_true (by kernel_rfl)) k0 bel.out lt0) (trodAll_cons_mk (Below.trod laidOut (by kernel_rfl) (of_decide_eq_true (by kernel_rfl)) k1 bel.out lt1) trodAll_mk0)), rfl, bel.out.frame _, fun h => by cases h⟩
theorem said : Rows.FnCountJoinUptoSaid :=
  OpenClaim.holds_of_cond 8 Try.f8 rfl rfl rfl rfl rfl rfl rfl ⟨rfl, rfl, rfl, rfl, rfl⟩ rfl rfl rfl rfl rfl (by kernel_rfl) Try.func8 (by kernel_rfl)
    (of_decide_eq_true (by kernel_rfl)) (by unfold Func.isWrapper; first | (rw [if_pos (by decide +kernel)]; kernel_rfl) | (rw [if_neg (by decide +kernel)]; exact ⟨rfl, rfl⟩))
    (fun os started H enc _ F => lifted os started H enc F)
end fnCountJoin
end Go.Proofs.Ytmfdpmokphdbiaa
