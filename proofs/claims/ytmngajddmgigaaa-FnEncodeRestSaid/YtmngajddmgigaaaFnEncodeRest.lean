/- FnEncodeRest: EncodeRune changes nothing behind what it writes. No condition. -/
import Derived.Test.YtmngajddmgigaaaFrame
import Derived.Test.YtmngajddmgigaaaEncode
import Derived.Test.YtmngajddmgigaaaJoined
import Derived.Test.YtmngajddmgigaaaSame
import Derived.Deep.RegionHeld3
import Derived.IntWalk
namespace Go.Proofs.Ytmngajddmgigaaa
open Go.RowKit Go.Lib
set_option linter.unusedVariables false
theorem same_self (A B : Option Addr) (n m ca cb : Nat) (x : List UInt8) (w : World) (hx : By w A n x) (hy : By w B m x) (hn : n ≤ 9223372036854775807) (hm : m ≤ 9223372036854775807) :
    Calls Try.prog 14 #[.slice A n ca, .slice B m cb] w fun e w' => e = .returned (.bool true) ∧ Nx w w' := by
  have := same_u8_by A B n m ca cb x x w hx hy hn hm
  rwa [eqB_refl] at this
theorem run_cut4 (b K : Nat) (hK : K ≤ 4) (W : World) : (Instr.sliceAt 37 (.pointer (some ⟨b, 0, none⟩)) (some (.int .i64 (K : Int))) none none).run Try.prog W = .ok (.slice (cutA (some ⟨b, 0, none⟩) 4 K) (4 - K) (4 - K)) W := by
  have ht : Try.prog.underlying 37 = some (.array (Try.prog.arrayLen 37) (Try.prog.elem 37)) := by kernel_rfl
  have hl : Try.prog.arrayLen 37 = 4 := by kernel_rfl
  have hz : ∀ w, (Go.sizeOf (Try.prog.elem 37)).run Try.prog w = .ok 1 w := fun w => by kernel_rfl
  rw [run_sliceAt_array_l W 37 _ ht .i64 (K : Int) (by omega) (by rw [hl]; omega), hz, hl]
  simp only [Result.andThen, slicedAt, cutA, Int.toNat_natCast, Nat.mul_one]
  by_cases h : 4 = K
  · simp [h]
  · simp [h]
set_option maxRecDepth 100000 in
set_option maxHeartbeats 1000000 in
theorem fnEncodeRest_walk (x00 x01 x02 x03 : Int) (A1 : Option Addr) (n1 c1 : Nat) (l1 : List UInt8) (a2 : Int) (w : World) (y0 : Byte4 x00 x01 x02 x03) (e1 : By w A1 n1 l1) (g1 : n1 ≤ c1) (m1 : c1 ≤ 140737488351232) (b2 : -2147483648 ≤ a2 ∧ a2 ≤ 2147483647) :
    Calls Try.prog 8 #[.agg #[.int .u8 x00, .int .u8 x01, .int .u8 x02, .int .u8 x03], .slice A1 n1 c1, .int .i32 a2] w fun e w' => e = .returned (.bool true) ∧ Nx w w' := by
  obtain ⟨h1, h2⟩ := b2
  have LX := Lib.hid e1.len
  have k1 : Nx w (w.alloc (.cells #[.int .u8 x00, .int .u8 x01, .int .u8 x02, .int .u8 x03] 37)) := (Nx.refl w).alloc _
  go_enter Try.func8, Try.ntmps8
  go_wp2_with fail
  refine (encode_k x00 x01 x02 x03 y0 _ _ _ l1 a2 _ (e1.next k1) h1 h2 (by omega)).mono ?_
  rintro e wr ⟨A2, n2, c2, K, rfl, o2, hK, K1, K4, hn2, hc2, x2⟩
  have y2 := k1.trans x2
  obtain ⟨g, rfl, _⟩ := o2.addr (by omega)
  have d2 : ((n2 : Int) != 4 + (n1 : Int)) = false := by simp; omega
  have s2 := By.from_ (i := K) (cap := c2) o2.sl (by omega) hc2
  have sb := By.from_ (i := K) (cap := 4) (box4_by x00 x01 x02 x03 y0 w wr x2) (by omega) (Nat.le_refl _)
  have s3 := e1.next y2
  obtain ⟨T, hT⟩ : ∃ T, Hid ((quad x00 x01 x02 x03).drop K = T) := ⟨_, rfl⟩
  have hTl : T.length = 4 - K := by rw [← hT.out, List.length_drop, quad_len]
  have ht : Hid ((encodeRune a2 ++ (quad x00 x01 x02 x03 ++ l1).drop K).drop K = T ++ l1) := by
    show _ = _
    rw [← hT.out, hK.out, List.drop_left, List.drop_append_of_le_length (by rw [quad_len, ← hK.out]; omega)]
  rw [ht.out] at s2
  rw [hT.out] at sb
  have hl3 : Hid ((nums (T ++ l1)).length ≤ 9223372036854775807) := by show _ ≤ _; rw [nums_length, List.length_append, LX.out, hTl]; omega
  have hcut := fun W => run_cut (P := Try.prog) 22 5 Try.underlying22 (fun _ => by kernel_rfl) (some ⟨g, 0, none⟩) n2 c2 .i64 (K : Int) K rfl (by omega) W
  have hcut4 := fun W => run_cut4 w.heap.size K (by omega) W
  have hb1 : n2 - K ≤ 9223372036854775807 := by omega
  have hb2 : 4 - K + n1 ≤ 140737488355328 := by omega
  have cj := Lib.hid fun W (h : Nx wr W) => joined_any _ _ (4 - K) T _ _ c1 l1 W (sb.next h) (s3.next h) hb2
  have hcutA : ∀ W, (Instr.sliceAt 22 (.slice (some ⟨g, 0, none⟩) n2 c2) (some (.int .i64 (K : Int))) none none).run Try.prog W = .ok (.slice (cutA (some ⟨g, 0, none⟩) c2 K) (n2 - K) (c2 - K)) W := fun W => by
    rw [run_sliceAt_slice W 22 _ _ _ _ (by kernel_rfl)]
    exact hcut W
  clear o2 ht hK hTl hT
  have i1 : (0 : Int) ≤ (K : Int) := by omega
  have i2 : (K : Int) ≤ (n2 : Int) := by omega
  have i3 : (K : Int) ≤ 4 := by omega
  clear hn2
  go_wp2_with fail
  go_region_held3 (fun w' => Nx wr w') (first | exact (Nx.refl _).drew | exact x4 | exact x3) (first | (go_at_call 16; refine (cj.out _ ((Nx.refl _).drew)).mono ?_; rintro e w3 ⟨A3, n3, c3, rfl, o3, x3'⟩; have x3 : Nx wr w3 := ((Nx.refl _).drew).trans x3') | (go_at_call 14; refine (same_self _ _ _ _ _ _ (T ++ l1) _ (s2.next x3) o3.sl hb1 (Nat.le_trans (Nat.le_of_eq o3.len) hl3.out)).mono ?_; rintro e w4 ⟨rfl, x4'⟩; have x4 : Nx wr w4 := x3.trans x4'))
  go_wp2_with fail
  go_ret
  exact ⟨rfl, y2.trans x4⟩
namespace fnEncodeRest
open Go.ChangeShapes Go.WideShapes Go.ChangeAt Go.RowKit
open Go.ChangeMaps (open_string shut_string)
set_option maxRecDepth 100000 in
set_option linter.unusedVariables false in
theorem lifted (os : Os) (started : os.Started) (H : Type) (enc : TypeId × Value → H) :
    ReturnsInHanded {} Try.checked os 8 .any (Rows.fnEncodeRestSpec.pre6 enc Try.prog Try.f8 Rows.fnEncodeRestRow.domain false) (Rows.fnEncodeRestSpec.post enc Try.prog Try.f8 false true false false) := by
  refine returnsInHanded_of_change_sized (C := Try.checked) own started (by kernel_rfl) Try.func8
    (ChangeSpec.witness6 (enc := enc) (C := Try.checked) false ⟨#[], #[.agg #[.int .u8 0, .int .u8 0, .int .u8 0, .int .u8 0], .slice none 0 0, .int .i32 0], []⟩ 8 (by kernel_rfl) (by kernel_rfl) (by kernel_rfl) (by kernel_rfl)) ?_
  intro W base args ds gs before hval0 hW hcnd hsz0 _
  have hsz : (DataW.weightsEach Try.prog (Try.f8.params.toList ++ Rows.fnEncodeRestSpec.plain.varTypes Try.prog) (ds ++ gs)).all (· ≤ reachBytes) = true := hsz0
  rw [Try.params8] at hsz
  have hval : ∀ (j : Nat) t v, Try.f8.params[j]? = some t → args[j]? = some v → Value.okWide Try.prog W .any base t v := hval0
  have hW' := hW
  obtain ⟨p, q, hA0, hV, rfl, hfz, hnd⟩ := hW
  have hA : DataW.TrodAll enc Try.prog W 0 (fun _ => true) true Try.f8.params.toList args.toList ds p := hA0
  rw [Try.params8] at hA hval
  obtain ⟨v0, vs0, d0, ds0, p0, q0, hargs, rfl, rfl, h0, r0⟩ := trodAll_cons hA
  obtain ⟨v1, vs1, d1, ds1, p1, q1, rfl, rfl, rfl, h1, r1⟩ := trodAll_cons r0
  obtain ⟨v2, vs2, d2, ds2, p2, q2, rfl, rfl, rfl, h2, r2⟩ := trodAll_cons r1
  obtain ⟨rfl, rfl, rfl⟩ := trodAll_nil r2
  obtain rfl : args = #[v0, v1, v2] := by cases args; simp_all
  obtain ⟨rfl, rfl⟩ := trodVars_none hV
  have k0 := h0
  have lt0 : ∀ x ∈ p0, x.block < W.heap.size := by obtain ⟨m, hm⟩ := k0; exact DataW.trod_lt m _ _ _ hm
  obtain ⟨x00, x01, x02, x03, rfl, y0⟩ := open_arr4 Try.underlying37 Try.underlying5 (by kernel_rfl) (by kernel_rfl) (hval 0 37 v0 rfl rfl) h0
  have k1 := h1
  have lt1 : ∀ x ∈ p1, x.block < W.heap.size := by obtain ⟨m, hm⟩ := k1; exact DataW.trod_lt m _ _ _ hm
  obtain ⟨A1, n1, c1, l1, rfl, e1, g1, m1, u1⟩ := open_by Try.underlying22 Try.underlying5 (by kernel_rfl) (hval 1 22 v1 rfl rfl) h1
  have z1 : c1 ≤ 140737488351232 := by have := held_size (j := 1) (t := 22) (b := 1) hsz (by kernel_rfl) (by rfl) rfl Try.underlying22 u1; omega
  have k2 := h2
  have lt2 : ∀ x ∈ p2, x.block < W.heap.size := by obtain ⟨m, hm⟩ := k2; exact DataW.trod_lt m _ _ _ hm
  obtain ⟨a2, rfl, rfl, rfl, w2⟩ := open_int Try.underlying21 (hval 2 21 v2 rfl rfl) h2
  have b2 : -2147483648 ≤ a2 ∧ a2 ≤ 2147483647 := by simpa [Lit.wf, IntKind.min, IntKind.max, IntKind.signed, IntKind.bits] using w2
  clear hA0 hval0
  refine (fnEncodeRest_walk x00 x01 x02 x03 A1 n1 c1 l1 a2 W y0 e1 g1 z1 b2).mono fun e W' ⟨he, bel⟩ => ?_
  subst he
  exact ⟨_, rfl, _, _, _, [], _, [], hW', trodAll_mk1 (shut_bool Try.underlying4 _), (trodAll_cons_mk (Below.trod laidOut (by kernel_rfl) (of_decide_eq_true (by kernel_rfl)) k0 bel.out lt0) (trodAll_cons_mk (Below.trod laidOut (by kernel_rfl) (of_decide_eq_true (by kernel_rfl)) k1 bel.out lt1) (trodAll_cons_mk (shut_int Try.underlying21 w2) trodAll_mk0))), rfl, bel.out.frame _, fun h => by cases h⟩
theorem said : Rows.FnEncodeRestSaid :=
  OpenClaim.holds_of_wide 8 Try.f8 rfl rfl rfl rfl rfl rfl rfl ⟨rfl, rfl, rfl, rfl, rfl⟩ rfl rfl rfl rfl rfl (by kernel_rfl) Try.func8 (by kernel_rfl)
    (of_decide_eq_true (by kernel_rfl)) (by unfold Func.isWrapper; first | (rw [if_pos (by decide +kernel)]; kernel_rfl) | (rw [if_neg (by decide +kernel)]; exact ⟨rfl, rfl⟩))
    (fun os started H enc _ => lifted os started H enc)
end fnEncodeRest
end Go.Proofs.Ytmngajddmgigaaa
