/- FnRoads: AppendRune, EncodeRune and both conversions write the same bytes for every rune. No condition. -/
import Derived.Test.YtmngajddmgigaaaFrame
import Derived.Test.YtmngajddmgigaaaEncode
import Derived.Test.YtmngajddmgigaaaConv
namespace Go.Proofs.Ytmngajddmgigaaa
open Go.RowKit Go.Lib
set_option linter.unusedVariables false
set_option maxRecDepth 100000 in
set_option maxHeartbeats 1000000 in
theorem fnRoads_walk (x00 x01 x02 x03 : Int) (A1 : Option Addr) (n1 c1 : Nat) (l1 : List UInt8) (a2 : Int) (w : World) (y0 : Byte4 x00 x01 x02 x03) (e1 : By w A1 n1 l1) (g1 : n1 ≤ c1) (m1 : c1 ≤ 140737488351232) (b2 : -2147483648 ≤ a2 ∧ a2 ≤ 2147483647) :
    Calls Try.prog 12 #[.agg #[.int .u8 x00, .int .u8 x01, .int .u8 x02, .int .u8 x03], .slice A1 n1 c1, .int .i32 a2] w fun e w' => e = .returned (.bool true) ∧ Nx w w' := by
  obtain ⟨h1, h2⟩ := b2
  have LX := Lib.hid e1.len
  have k1 : Nx w (w.alloc (.cells #[.int .u8 x00, .int .u8 x01, .int .u8 x02, .int .u8 x03] 37)) := (Nx.refl w).alloc _
  obtain ⟨X, hX⟩ : ∃ X, Hid (strOf (l1 ++ encodeRune a2) = X) := ⟨_, rfl⟩
  obtain ⟨P0, hP⟩ : ∃ X, Hid (strOf l1 = X) := ⟨_, rfl⟩
  obtain ⟨Q0, hQ⟩ : ∃ X, Hid (strOf (encodeRune a2) = X) := ⟨_, rfl⟩
  have hsum : P0 ++ Q0 = X := by rw [← hP.out, ← hQ.out, ← hX.out, append_strOf]
  have heq : (X.toList == (P0 ++ Q0).toList) = true := by rw [hsum]; simp
  have hqq : (Q0.toList == Q0.toList) = true := by simp
  have hs1 : P0.size + Q0.size ≤ 9223372036854775807 := by
    have := (enc_length a2).2
    rw [← hP.out, ← hQ.out, strOf_size, strOf_size, LX.out]
    omega
  have cs := Lib.hid fun w => stringOfRune_any a2 w
  rw [hQ.out] at cs
  have ct := Lib.hid fun A n c W hx => stringOf_any A n c [a2] W hx
  have htx : text [a2] = encodeRune a2 := by simp [text]
  rw [htx, hQ.out] at ct
  clear hsum htx
  go_enter Try.func12, Try.ntmps12
  go_wp2_with fail
  refine (append_any _ _ _ l1 _ _ (e1.next k1) h1 h2 (by omega)).mono ?_
  rintro e w1 ⟨A3, n3, c3, rfl, o3, x1⟩
  have hn3 : n1 ≤ n3 ∧ n3 ≤ n1 + 4 := by have := o3.len; have h4 := enc_length a2; rw [nums_length, List.length_append, LX.out] at this; omega
  obtain ⟨hn3, hn3'⟩ := hn3
  have x2 : Nx w1 (w1.alloc (.cells #[] 5)) := (Nx.refl w1).alloc _
  obtain ⟨q0, q1, q2, q3⟩ := box4 x00 x01 x02 x03 w w1 x1
  go_wp2_with fail
  refine (encode_k x00 x01 x02 x03 y0 _ _ _ [] a2 _ (By.empty _ _) h1 h2 (by omega)).mono ?_
  rintro e wr ⟨A2, n2, c2, K, rfl, o2, hK, K1, K4, hn2, hc2, x4⟩
  have y4 := ((k1.trans x1).trans x2).trans x4
  have s2 := By.upto (j := K) o2.sl (by omega)
  have ht : Hid ((encodeRune a2 ++ (quad x00 x01 x02 x03 ++ []).drop K).take K = encodeRune a2) := by
    show _ = _
    rw [hK.out, List.take_left]
  rw [ht.out] at s2
  have s3 : By wr A3 n3 (l1 ++ encodeRune a2) := (o3.sl.next x2).next x4
  have s1 := e1.next y4
  have hup := fun W => run_upto (P := Try.prog) 22 5 Try.underlying22 (fun _ => by kernel_rfl) A2 n2 c2 .i64 (K : Int) K rfl (by omega) W
  have t1 := run_bytes_str (P := Try.prog) 22 9 5 Try.underlying22 Try.underlying5 Try.underlying9 wr A2 K c2 _ s2
  have t2 := run_bytes_str (P := Try.prog) 22 9 5 Try.underlying22 Try.underlying5 Try.underlying9 wr A3 n3 c3 _ s3
  have t3 := run_bytes_str (P := Try.prog) 22 9 5 Try.underlying22 Try.underlying5 Try.underlying9 wr A1 n1 c1 _ s1
  rw [hQ.out] at t1
  rw [hX.out] at t2
  rw [hP.out] at t3
  have so := one_sl .i32 21 wr a2
  clear o2 o3 ht hK q0 q1 q2 q3 x1 x2 x4
  go_wp2_with (first | (go_at_call 26; refine (cs.out _).mono ?_; rintro e w' ⟨rfl, rfl⟩) | (go_at_call 23; refine (ct.out _ _ _ _ so).mono ?_; rintro e w' ⟨rfl, rfl⟩))
  go_ret
  exact ⟨rfl, y4.alloc _⟩
namespace fnRoads
open Go.ChangeShapes Go.WideShapes Go.ChangeAt Go.RowKit
open Go.ChangeMaps (open_string shut_string)
set_option maxRecDepth 100000 in
set_option linter.unusedVariables false in
theorem lifted (os : Os) (started : os.Started) (H : Type) (enc : TypeId × Value → H) :
    ReturnsInHanded {} Try.checked os 12 .any (Rows.fnRoadsSpec.pre6 enc Try.prog Try.f12 Rows.fnRoadsRow.domain false) (Rows.fnRoadsSpec.post enc Try.prog Try.f12 false true false false) := by
  refine returnsInHanded_of_change_sized (C := Try.checked) own started (by kernel_rfl) Try.func12
    (ChangeSpec.witness6 (enc := enc) (C := Try.checked) false ⟨#[], #[.agg #[.int .u8 0, .int .u8 0, .int .u8 0, .int .u8 0], .slice none 0 0, .int .i32 0], []⟩ 8 (by kernel_rfl) (by kernel_rfl) (by kernel_rfl) (by kernel_rfl)) ?_
  intro W base args ds gs before hval0 hW hcnd hsz0 _
  have hsz : (DataW.weightsEach Try.prog (Try.f12.params.toList ++ Rows.fnRoadsSpec.plain.varTypes Try.prog) (ds ++ gs)).all (· ≤ reachBytes) = true := hsz0
  rw [Try.params12] at hsz
  have hval : ∀ (j : Nat) t v, Try.f12.params[j]? = some t → args[j]? = some v → Value.okWide Try.prog W .any base t v := hval0
  have hW' := hW
  obtain ⟨p, q, hA0, hV, rfl, hfz, hnd⟩ := hW
  have hA : DataW.TrodAll enc Try.prog W 0 (fun _ => true) true Try.f12.params.toList args.toList ds p := hA0
  rw [Try.params12] at hA hval
  obtain ⟨v0, vs0, d0, ds0, p0, q0, hargs, rfl, rfl, h0, r0⟩ := trodAll_cons hA
  obtain ⟨v1, vs1, d1, ds1, p1, q1, rfl, rfl, rfl, h1, r1⟩ := trodAll_cons r0
  obtain ⟨v2, vs2, d2, ds2, p2, q2, rfl, rfl, rfl, h2, r2⟩ := trodAll_cons r1
  obtain ⟨rfl, rfl, rfl⟩ := trodAll_nil r2
  obtain rfl : args = #[v0, v1, v2] := by cases args; simp_all
  obtain ⟨rfl, rfl⟩ := trodVars_none hV
  have k0 := h0
  have lt0 : ∀ x ∈ p0, x.block < W.heap.size := by obtain ⟨m, hm⟩ := k0; exact DataW.trod_lt m _ _ _ hm
  obtain ⟨x00, x01, x02, x03, rfl, y0⟩ := open_arr4 Try.underlying37 Try.underlying5 (by kernel_rfl) (by kernel_rfl) (hval 0 37 v0 rfl rfl) h0
  have k1 := h1
  have lt1 : ∀ x ∈ p1, x.block < W.heap.size := by obtain ⟨m, hm⟩ := k1; exact DataW.trod_lt m _ _ _ hm
  obtain ⟨A1, n1, c1, l1, rfl, e1, g1, m1, u1⟩ := open_by Try.underlying22 Try.underlying5 (by kernel_rfl) (hval 1 22 v1 rfl rfl) h1
  have z1 : c1 ≤ 140737488351232 := by have := held_size (j := 1) (t := 22) (b := 1) hsz (by kernel_rfl) (by rfl) rfl Try.underlying22 u1; omega
  have k2 := h2
  have lt2 : ∀ x ∈ p2, x.block < W.heap.size := by obtain ⟨m, hm⟩ := k2; exact DataW.trod_lt m _ _ _ hm
  obtain ⟨a2, rfl, rfl, rfl, w2⟩ := open_int Try.underlying21 (hval 2 21 v2 rfl rfl) h2
  have b2 : -2147483648 ≤ a2 ∧ a2 ≤ 2147483647 := by simpa [Lit.wf, IntKind.min, IntKind.max, IntKind.signed, IntKind.bits] using w2
  clear hA0 hval0
  refine (fnRoads_walk x00 x01 x02 x03 A1 n1 c1 l1 a2 W y0 e1 g1 z1 b2).mono fun e W' ⟨he, bel⟩ => ?_
  subst he
  exact ⟨_, rfl, _, _, _, [], _, [], hW', trodAll_mk1 (shut_bool Try.underlying4 _), (trodAll_cons_mk (Below.trod laidOut (by kernel_rfl) (of_decide_eq_true (by kernel_rfl)) k0 bel.out lt0) (trodAll_cons_mk (Below.trod laidOut (by kernel_rfl) (of_decide_eq_true (by kernel_rfl)) k1 bel.out lt1) (trodAll_cons_mk (shut_int Try.underlying21 w2) trodAll_mk0))), rfl, bel.out.frame _, fun h => by cases h⟩
theorem said : Rows.FnRoadsSaid :=
  OpenClaim.holds_of_wide 12 Try.f12 rfl rfl rfl rfl rfl rfl rfl ⟨rfl, rfl, rfl, rfl, rfl⟩ rfl rfl rfl rfl rfl (by kernel_rfl) Try.func12 (by kernel_rfl)
    (of_decide_eq_true (by kernel_rfl)) (by unfold Func.isWrapper; first | (rw [if_pos (by decide +kernel)]; kernel_rfl) | (rw [if_neg (by decide +kernel)]; exact ⟨rfl, rfl⟩))
    (fun os started H enc _ => lifted os started H enc)
end fnRoads
end Go.Proofs.Ytmngajddmgigaaa
