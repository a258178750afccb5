/- FnOrder: encodings are ordered byte by byte as their runes are, and a greater rune has no shorter one. No condition. -/
import Derived.Test.YtmngajddmgigaaaFrame
import Derived.Test.YtmngajddmgigaaaGood
import Derived.Test.YtmngajddmgigaaaAppend
import Derived.Test.YtmngajddmgigaaaOrder
import Derived.Test.YtmngajddmgigaaaRune
namespace Go.Proofs.Ytmngajddmgigaaa
open Go.RowKit Go.Lib Go.Op
set_option linter.unusedVariables false
theorem len_mono {a b : Int} (ha : goodB a = true) (hb : goodB b = true) (h : a < b) : (encodeRune a).length ≤ (encodeRune b).length := by
  have ea := lenZ_good ha
  have eb := lenZ_good hb
  rcases good_cases ha with ⟨x, y⟩ | ⟨x, y⟩ | x | ⟨x, y⟩ <;> rcases good_cases hb with ⟨u, v⟩ | ⟨u, v⟩ | u | ⟨u, v⟩ <;>
    first
    | (exfalso; omega)
    | (have e1 : lenZ a ≤ lenZ b := by
         first
         | rw [lenZ_one x y] | rw [lenZ_two x y] | rw [lenZ_three x] | rw [lenZ_four x y]
         first
         | rw [lenZ_one u v] | rw [lenZ_two u v] | rw [lenZ_three u] | rw [lenZ_four u v]
         all_goals omega
       omega)
theorem less_str {x y : List UInt8} (X Y : ByteArray) (hX : strOf x = X) (hY : strOf y = Y) (h : bytesLess x y = true) : bytesLess X.toList Y.toList = true := by
  have ex : X.toList = x := by rw [← hX]; exact ByteArray.toList_mk _
  have ey : Y.toList = y := by rw [← hY]; exact ByteArray.toList_mk _
  rw [ex, ey]
  exact h
set_option maxRecDepth 100000 in
set_option maxHeartbeats 1000000 in
theorem fnOrder_walk (a0 a1 : Int) (w : World) (b0 : -2147483648 ≤ a0 ∧ a0 ≤ 2147483647) (b1 : -2147483648 ≤ a1 ∧ a1 ≤ 2147483647) :
    Calls Try.prog 11 #[.int .i32 a0, .int .i32 a1] w fun e w' => e = .returned (.bool true) ∧ Nx w w' := by
  obtain ⟨h1, h2⟩ := b0
  obtain ⟨h3, h4⟩ := b1
  cases hg : goodB a0 with
  | false =>
    go_enter Try.func11, Try.ntmps11
    go_wp2_with (go_at_call 18; refine (good_any _ _).mono ?_; rintro e w' ⟨rfl, rfl⟩)
    go_ret
    exact ⟨rfl, Nx.refl _⟩
  | true =>
    cases hk : goodB a1 with
    | false =>
      go_enter Try.func11, Try.ntmps11
      go_wp2_with (go_at_call 18; refine (good_any _ _).mono ?_; rintro e w' ⟨rfl, rfl⟩)
      go_ret
      exact ⟨rfl, Nx.refl _⟩
    | true =>
      by_cases hlt : a0 < a1
      · obtain ⟨X, hX⟩ : ∃ X, Hid (strOf (encodeRune a0) = X) := ⟨_, rfl⟩
        obtain ⟨Y, hY⟩ : ∃ Y, Hid (strOf (encodeRune a1) = Y) := ⟨_, rfl⟩
        have f3 : bytesLess X.toList Y.toList = true := less_str X Y hX.out hY.out (by have := enc_less hg hk hlt [] []; rwa [List.append_nil, List.append_nil] at this)
        have hx0 : Nx w (w.alloc (.cells #[] 5)) := (Nx.refl w).alloc _
        go_enter Try.func11, Try.ntmps11
        go_wp2_with (go_at_call 18; refine (good_any _ _).mono ?_; rintro e w' ⟨rfl, rfl⟩)
        refine (append_new _ _ a0 _ h1 h2).mono ?_
        rintro e w1 ⟨A1, n1, c1, rfl, o1, l1, p1, q1, g1, x1⟩
        have x2 : Nx w1 (w1.alloc (.cells #[] 5)) := (Nx.refl w1).alloc _
        go_wp2_with fail
        refine (append_new _ _ a1 _ h3 h4).mono ?_
        rintro e w2 ⟨A2, n2, c2, rfl, o2, l2, p2, q2, g2, x3⟩
        have y := ((hx0.trans x1).trans x2).trans x3
        have s1 : By w2 A1 n1 (encodeRune a0) := (o1.sl.next x2).next x3
        have s2 : By w2 A2 n2 (encodeRune a1) := o2.sl
        have t1 := run_bytes_str (P := Try.prog) 22 9 5 Try.underlying22 Try.underlying5 Try.underlying9 w2 A1 n1 c1 _ s1
        have t2 := run_bytes_str (P := Try.prog) 22 9 5 Try.underlying22 Try.underlying5 Try.underlying9 w2 A2 n2 c2 _ s2
        rw [hX.out] at t1
        rw [hY.out] at t2
        have L1 : Hid (lenZ a0 = (n1 : Int)) := by show _ = _; rw [lenZ_good hg, l1.out]
        have L2 : Hid (lenZ a1 = (n2 : Int)) := by show _ = _; rw [lenZ_good hk, l2.out]
        have c1 := Lib.hid fun w => len_any a0 w
        have c2 := Lib.hid fun w => len_any a1 w
        rw [L1.out] at c1
        rw [L2.out] at c2
        have hle : n1 ≤ n2 := by rw [l1.out, l2.out]; exact len_mono hg hk hlt
        have e1 : ((n1 : Int) == (n1 : Int)) = true := by simp
        have e2 : ((n2 : Int) == (n2 : Int)) = true := by simp
        clear o1 o2 x1 x2 x3 hx0
        go_wp2_with (first | (go_at_call 25; refine (c1.out _).mono ?_; rintro e w' ⟨rfl, rfl⟩) | (go_at_call 25; refine (c2.out _).mono ?_; rintro e w' ⟨rfl, rfl⟩))
        go_ret
        exact ⟨rfl, y⟩
      · go_enter Try.func11, Try.ntmps11
        go_wp2_with (go_at_call 18; refine (good_any _ _).mono ?_; rintro e w' ⟨rfl, rfl⟩)
        go_ret
        exact ⟨rfl, Nx.refl _⟩
namespace fnOrder
open Go.ChangeShapes Go.WideShapes Go.ChangeAt Go.RowKit
open Go.ChangeMaps (open_string shut_string)
set_option maxRecDepth 100000 in
set_option linter.unusedVariables false in
theorem lifted (os : Os) (started : os.Started) (H : Type) (enc : TypeId × Value → H) :
    ReturnsInHanded {} Try.checked os 11 .any (Rows.fnOrderSpec.pre6 enc Try.prog Try.f11 Rows.fnOrderRow.domain false) (Rows.fnOrderSpec.post enc Try.prog Try.f11 false true false false) := by
  refine returnsInHanded_of_change_sized (C := Try.checked) own started (by kernel_rfl) Try.func11
    (ChangeSpec.witness6 (enc := enc) (C := Try.checked) false ⟨#[], #[.int .i32 0, .int .i32 0], []⟩ 8 (by kernel_rfl) (by kernel_rfl) (by kernel_rfl) (by kernel_rfl)) ?_
  intro W base args ds gs before hval0 hW hcnd hsz0 _
  have hsz : (DataW.weightsEach Try.prog (Try.f11.params.toList ++ Rows.fnOrderSpec.plain.varTypes Try.prog) (ds ++ gs)).all (· ≤ reachBytes) = true := hsz0
  rw [Try.params11] at hsz
  have hval : ∀ (j : Nat) t v, Try.f11.params[j]? = some t → args[j]? = some v → Value.okWide Try.prog W .any base t v := hval0
  have hW' := hW
  obtain ⟨p, q, hA0, hV, rfl, hfz, hnd⟩ := hW
  have hA : DataW.TrodAll enc Try.prog W 0 (fun _ => true) true Try.f11.params.toList args.toList ds p := hA0
  rw [Try.params11] at hA hval
  obtain ⟨v0, vs0, d0, ds0, p0, q0, hargs, rfl, rfl, h0, r0⟩ := trodAll_cons hA
  obtain ⟨v1, vs1, d1, ds1, p1, q1, rfl, rfl, rfl, h1, r1⟩ := trodAll_cons r0
  obtain ⟨rfl, rfl, rfl⟩ := trodAll_nil r1
  obtain rfl : args = #[v0, v1] := by cases args; simp_all
  obtain ⟨rfl, rfl⟩ := trodVars_none hV
  have k0 := h0
  have lt0 : ∀ x ∈ p0, x.block < W.heap.size := by obtain ⟨m, hm⟩ := k0; exact DataW.trod_lt m _ _ _ hm
  obtain ⟨a0, rfl, rfl, rfl, w0⟩ := open_int Try.underlying21 (hval 0 21 v0 rfl rfl) h0
  have b0 : -2147483648 ≤ a0 ∧ a0 ≤ 2147483647 := by simpa [Lit.wf, IntKind.min, IntKind.max, IntKind.signed, IntKind.bits] using w0
  have k1 := h1
  have lt1 : ∀ x ∈ p1, x.block < W.heap.size := by obtain ⟨m, hm⟩ := k1; exact DataW.trod_lt m _ _ _ hm
  obtain ⟨a1, rfl, rfl, rfl, w1⟩ := open_int Try.underlying21 (hval 1 21 v1 rfl rfl) h1
  have b1 : -2147483648 ≤ a1 ∧ a1 ≤ 2147483647 := by simpa [Lit.wf, IntKind.min, IntKind.max, IntKind.signed, IntKind.bits] using w1
  clear hA0 hval0
  refine (fnOrder_walk a0 a1 W b0 b1).mono fun e W' ⟨he, bel⟩ => ?_
  subst he
  exact ⟨_, rfl, _, _, _, [], _, [], hW', trodAll_mk1 (shut_bool Try.underlying4 _), (trodAll_cons_mk (shut_int Try.underlying21 w0) (trodAll_cons_mk (shut_int Try.underlying21 w1) trodAll_mk0)), rfl, bel.out.frame _, fun h => by cases h⟩
theorem said : Rows.FnOrderSaid :=
  OpenClaim.holds_of_wide 11 Try.f11 rfl rfl rfl rfl rfl rfl rfl ⟨rfl, rfl, rfl, rfl, rfl⟩ rfl rfl rfl rfl rfl (by kernel_rfl) Try.func11 (by kernel_rfl)
    (of_decide_eq_true (by kernel_rfl)) (by unfold Func.isWrapper; first | (rw [if_pos (by decide +kernel)]; kernel_rfl) | (rw [if_neg (by decide +kernel)]; exact ⟨rfl, rfl⟩))
    (fun os started H enc _ => lifted os started H enc)
end fnOrder
end Go.Proofs.Ytmngajddmgigaaa
