/- FnEncodeSurrogate: EncodeRune writes the encoding of the rune, or that of RuneError if the rune is out of range or a surrogate half, and tells its length. No condition. -/
import Derived.Test.YtmngajddmgigaaaFrame
import Derived.Test.YtmngajddmgigaaaGood
import Derived.Test.YtmngajddmgigaaaEncoding
import Derived.Test.YtmngajddmgigaaaEncode
import Derived.Test.YtmngajddmgigaaaSame
namespace Go.Proofs.Ytmngajddmgigaaa
open Go.RowKit Go.Lib
set_option linter.unusedVariables false
theorem sur_bad {r : Int} (h : surB r = true) : goodB r = false := by
  rw [surB_iff] at h
  cases hg : goodB r with
  | false => rfl
  | true => rw [goodB_iff] at hg; omega
set_option maxRecDepth 100000 in
set_option maxHeartbeats 1000000 in
theorem fnEncodeSurrogate_walk (x00 x01 x02 x03 : Int) (A1' : Option Addr) (n1' c1 : Nat) (l1 : List UInt8) (a2 : Int) (w : World) (y0 : Byte4 x00 x01 x02 x03) (e1 : By w A1' n1' l1) (g1 : n1' ≤ c1) (m1 : c1 ≤ 140737488351232) (b2 : -2147483648 ≤ a2 ∧ a2 ≤ 2147483647) :
    Calls Try.prog 10 #[.agg #[.int .u8 x00, .int .u8 x01, .int .u8 x02, .int .u8 x03], .slice A1' n1' c1, .int .i32 a2] w fun e w' => e = .returned (.bool true) ∧ Nx w w' := by
  obtain ⟨h1, h2⟩ := b2
  have k1 : Nx w (w.alloc (.cells #[.int .u8 x00, .int .u8 x01, .int .u8 x02, .int .u8 x03] 37)) := (Nx.refl w).alloc _
  cases hs : surB a2 with
  | false =>
    go_enter Try.func10, Try.ntmps10
    go_wp2_with (go_at_call 13; refine (surrogate_any _ _).mono ?_; rintro e w' ⟨rfl, rfl⟩)
    go_ret
    exact ⟨rfl, k1⟩
  | true =>
    have hg65 : goodB 65533 = true := by decide
    have HE := Lib.hid (enc_bad (sur_bad hs))
    go_enter Try.func10, Try.ntmps10
    go_wp2_with (go_at_call 13; refine (surrogate_any _ _).mono ?_; rintro e w' ⟨rfl, rfl⟩)
    refine (encoding_any _ _ hg65).mono ?_
    rintro e w1 ⟨A1, n1, c3, rfl, o1, x1⟩
    obtain ⟨q0, q1, q2, q3⟩ := box4 x00 x01 x02 x03 w w1 x1
    have y1 := k1.trans x1
    go_wp2_with fail
    refine (encode_k x00 x01 x02 x03 y0 _ _ _ l1 a2 _ (e1.next y1) h1 h2 (by omega)).mono ?_
    rintro e w2 ⟨A2, n2, c2, K, rfl, o2, hK, K1, K4, hn2, hc2, x2⟩
    have hn1 : n1 = K := by have := o1.len; rw [nums_length] at this; rw [this, hK.out, HE.out]
    subst hn1
    have d1 : ((n1 : Int) == (n1 : Int)) = true := by simp
    have d2 : ((n2 : Int) == 4 + (n1' : Int)) = true := by simp; omega
    have s1 : By w2 A1 n1 (encodeRune a2) := by rw [HE.out]; exact o1.sl.next x2
    have s2 := By.upto (j := n1) o2.sl (by omega)
    have ht : Hid ((encodeRune a2 ++ (quad x00 x01 x02 x03 ++ l1).drop n1).take n1 = encodeRune a2) := by
      show _ = _
      rw [hK.out, List.take_left]
    rw [ht.out] at s2
    have hup := fun W => run_upto (P := Try.prog) 22 5 Try.underlying22 (fun _ => by kernel_rfl) A2 n2 c2 .i64 (n1 : Int) n1 rfl (by omega) W
    clear q0 q1 q2 q3 o1 o2 hK
    go_wp2_with fail
    clear hup
    refine (same_u8_by _ _ _ _ _ _ (encodeRune a2) (encodeRune a2) _ s2 s1 (by omega) (by omega)).mono ?_
    rintro e w3 ⟨rfl, x3⟩
    rw [eqB_refl]
    go_wp2_with fail
    go_ret
    exact ⟨rfl, (y1.trans x2).trans x3⟩
namespace fnEncodeSurrogate
open Go.ChangeShapes Go.WideShapes Go.ChangeAt Go.RowKit
open Go.ChangeMaps (open_string shut_string)
set_option maxRecDepth 100000 in
set_option linter.unusedVariables false in
theorem lifted (os : Os) (started : os.Started) (H : Type) (enc : TypeId × Value → H) :
    ReturnsInHanded {} Try.checked os 10 .any (Rows.fnEncodeSurrogateSpec.pre6 enc Try.prog Try.f10 Rows.fnEncodeSurrogateRow.domain false) (Rows.fnEncodeSurrogateSpec.post enc Try.prog Try.f10 false true false false) := by
  refine returnsInHanded_of_change_sized (C := Try.checked) own started (by kernel_rfl) Try.func10
    (ChangeSpec.witness6 (enc := enc) (C := Try.checked) false ⟨#[], #[.agg #[.int .u8 0, .int .u8 0, .int .u8 0, .int .u8 0], .slice none 0 0, .int .i32 0], []⟩ 8 (by kernel_rfl) (by kernel_rfl) (by kernel_rfl) (by kernel_rfl)) ?_
  intro W base args ds gs before hval0 hW hcnd hsz0 _
  have hsz : (DataW.weightsEach Try.prog (Try.f10.params.toList ++ Rows.fnEncodeSurrogateSpec.plain.varTypes Try.prog) (ds ++ gs)).all (· ≤ reachBytes) = true := hsz0
  rw [Try.params10] at hsz
  have hval : ∀ (j : Nat) t v, Try.f10.params[j]? = some t → args[j]? = some v → Value.okWide Try.prog W .any base t v := hval0
  have hW' := hW
  obtain ⟨p, q, hA0, hV, rfl, hfz, hnd⟩ := hW
  have hA : DataW.TrodAll enc Try.prog W 0 (fun _ => true) true Try.f10.params.toList args.toList ds p := hA0
  rw [Try.params10] at hA hval
  obtain ⟨v0, vs0, d0, ds0, p0, q0, hargs, rfl, rfl, h0, r0⟩ := trodAll_cons hA
  obtain ⟨v1, vs1, d1, ds1, p1, q1, rfl, rfl, rfl, h1, r1⟩ := trodAll_cons r0
  obtain ⟨v2, vs2, d2, ds2, p2, q2, rfl, rfl, rfl, h2, r2⟩ := trodAll_cons r1
  obtain ⟨rfl, rfl, rfl⟩ := trodAll_nil r2
  obtain rfl : args = #[v0, v1, v2] := by cases args; simp_all
  obtain ⟨rfl, rfl⟩ := trodVars_none hV
  have k0 := h0
  have lt0 : ∀ x ∈ p0, x.block < W.heap.size := by obtain ⟨m, hm⟩ := k0; exact DataW.trod_lt m _ _ _ hm
  obtain ⟨x00, x01, x02, x03, rfl, y0⟩ := open_arr4 Try.underlying37 Try.underlying5 (by kernel_rfl) (by kernel_rfl) (hval 0 37 v0 rfl rfl) h0
  have k1 := h1
  have lt1 : ∀ x ∈ p1, x.block < W.heap.size := by obtain ⟨m, hm⟩ := k1; exact DataW.trod_lt m _ _ _ hm
  obtain ⟨A1, n1, c1, l1, rfl, e1, g1, m1, u1⟩ := open_by Try.underlying22 Try.underlying5 (by kernel_rfl) (hval 1 22 v1 rfl rfl) h1
  have z1 : c1 ≤ 140737488351232 := by have := held_size (j := 1) (t := 22) (b := 1) hsz (by kernel_rfl) (by rfl) rfl Try.underlying22 u1; omega
  have k2 := h2
  have lt2 : ∀ x ∈ p2, x.block < W.heap.size := by obtain ⟨m, hm⟩ := k2; exact DataW.trod_lt m _ _ _ hm
  obtain ⟨a2, rfl, rfl, rfl, w2⟩ := open_int Try.underlying21 (hval 2 21 v2 rfl rfl) h2
  have b2 : -2147483648 ≤ a2 ∧ a2 ≤ 2147483647 := by simpa [Lit.wf, IntKind.min, IntKind.max, IntKind.signed, IntKind.bits] using w2
  clear hA0 hval0
  refine (fnEncodeSurrogate_walk x00 x01 x02 x03 A1 n1 c1 l1 a2 W y0 e1 g1 z1 b2).mono fun e W' ⟨he, bel⟩ => ?_
  subst he
  exact ⟨_, rfl, _, _, _, [], _, [], hW', trodAll_mk1 (shut_bool Try.underlying4 _), (trodAll_cons_mk (Below.trod laidOut (by kernel_rfl) (of_decide_eq_true (by kernel_rfl)) k0 bel.out lt0) (trodAll_cons_mk (Below.trod laidOut (by kernel_rfl) (of_decide_eq_true (by kernel_rfl)) k1 bel.out lt1) (trodAll_cons_mk (shut_int Try.underlying21 w2) trodAll_mk0))), rfl, bel.out.frame _, fun h => by cases h⟩
theorem said : Rows.FnEncodeSurrogateSaid :=
  OpenClaim.holds_of_wide 10 Try.f10 rfl rfl rfl rfl rfl rfl rfl ⟨rfl, rfl, rfl, rfl, rfl⟩ rfl rfl rfl rfl rfl (by kernel_rfl) Try.func10 (by kernel_rfl)
    (of_decide_eq_true (by kernel_rfl)) (by unfold Func.isWrapper; first | (rw [if_pos (by decide +kernel)]; kernel_rfl) | (rw [if_neg (by decide +kernel)]; exact ⟨rfl, rfl⟩))
    (fun os started H enc _ => lifted os started H enc)
end fnEncodeSurrogate
end Go.Proofs.Ytmngajddmgigaaa
