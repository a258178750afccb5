/- FnArguments: no function changes the bytes that it is given, also where there is room behind them. The condition: what is read is of bulk at most 1048576; the tables are those that the program lays. -/
import Derived.Test.YtelejafniamgiaaDoorFrame
import Derived.Test.YtelejafniamgiaaDoorDecodeU
import Derived.Test.YtelejafniamgiaaDoorValidU
import Derived.Test.YtelejafniamgiaaDoorFullI
import Derived.Test.YtelejafniamgiaaDoorCount
import Derived.Test.YtelejafniamgiaaDoorAppend
import Derived.Test.YtelejafniamgiaaDoorSame
import Derived.Test.YtelejafniamgiaaDoorPlainF
import Derived.Deep.DeepMust
namespace Go.Proofs.YtelejafniamgiaaDoor
open Go.RowKit Go.Lib
set_option linter.unusedVariables false
theorem room_info : (Tryd.prog.info? 5).map (fun i => (i.zero, i.size, i.bytes)) = some (some (.int .u8 0), 1, 1) := by kernel_rfl
def eight : List UInt8 := [1, 2, 3, 4, 5, 6, 7, 8]
theorem eight_sl (w : World) : Sl .u8 (w.alloc (.cells #[.int .u8 1, .int .u8 2, .int .u8 3, .int .u8 4, .int .u8 5, .int .u8 6, .int .u8 7, .int .u8 8] 5)) (some ⟨w.heap.size, 0, none⟩) 8 (nums eight) :=
  (Own.new .u8 5 w.heap.size w (Nat.le_refl _) (nums eight) _ 8 rfl rfl (by simp [maxLen, nums, eight])).sl
theorem eight_at (l : List UInt8) (i : Nat) (h : i < 8) : (((l ++ eight).getD (l.length + i) 0).toNat : Int) = (i : Int) + 1 := by
  rw [List.getD, List.getElem?_append_right (by omega), Nat.add_sub_cancel_left]
  have : i = 0 ∨ i = 1 ∨ i = 2 ∨ i = 3 ∨ i = 4 ∨ i = 5 ∨ i = 6 ∨ i = 7 := by omega
  rcases this with rfl | rfl | rfl | rfl | rfl | rfl | rfl | rfl <;> rfl
set_option maxRecDepth 100000 in
set_option maxHeartbeats 2000000 in
theorem fnArguments_walk (A0 : Option Addr) (n0 c0 : Nat) (l0 : List UInt8) (a1 : Int) (w : World) (hT : Tabs w) (e0 : By w A0 n0 l0) (g0 : n0 ≤ c0) (m0 : c0 ≤ 1048576) (b1 : -2147483648 ≤ a1 ∧ a1 ≤ 2147483647) :
    Calls Tryd.prog 6 #[.slice A0 n0 c0, .int .i32 a1] w fun e w' => e = .returned (.bool true) ∧ Nx w w' := by
  obtain ⟨r0, r1⟩ := b1
  obtain ⟨i0, hi0, hz0, hz1, hz2⟩ := info_parts room_info
  have LX := Lib.hid e0.len
  have o1 : Own .u8 5 w.heap.size (w.alloc (.cells #[] 5)) (some ⟨w.heap.size, 0, none⟩) 0 0 [] := Own.new .u8 _ w.heap.size w (Nat.le_refl _) [] _ 0 rfl rfl (by simp [maxLen])
  have hx1 : Nx w (w.alloc (.cells #[] 5)) := (Nx.refl w).alloc _
  have f0 := e0.next hx1
  obtain ⟨K, hK⟩ : ∃ K, Hid (cnt l0 = K) := ⟨_, rfl⟩
  have zK : ((K : Int) == (K : Int)) = true := by simp
  obtain ⟨R1, R2, hD⟩ : ∃ R K, Hid (dec l0 = (R, K)) := ⟨_, _, rfl⟩
  obtain ⟨S1, S2, hS⟩ : ∃ R K, Hid (decodeLastL l0 = (R, K)) := ⟨_, _, rfl⟩
  obtain ⟨F, hF⟩ : ∃ R, Hid (fullB l0 = R) := ⟨_, rfl⟩
  obtain ⟨V, hV⟩ : ∃ R, Hid (validB l0 = R) := ⟨_, rfl⟩
  go_enter Tryd.func6, Tryd.ntmps6
  go_wp2_with (first
    | (at_builtin; have _t := o1; go_must (refine wpList_append_sl _ rfl (.tmp 10) (.tmp 11) _ rfl w.heap.size 5 i0 _ 1 Tryd.underlying23 hi0 hz0 hz1 hz2 rfl _ 0 0 [] rfl o1 A0 n0 c0 (nums l0) rfl f0 (by simp only [maxLen]; omega) (by omega) hx1.size ?_); intro B1 m1' d1 w2 q1 hg1 hat1; have hx2 := hx1.app o1 hg1; have hm1 : m1' ≤ n0 := Nat.le_of_eq (q1.len.trans ((nums_length l0).trans LX.out)); rw [List.nil_append] at q1; clear _t o1 hx1 f0 hg1 hat1)
    | (at_builtin; have _t := q1; go_must (refine wpList_append_sl _ rfl (.tmp 12) (.tmp 13) _ rfl w.heap.size 5 i0 _ 1 Tryd.underlying23 hi0 hz0 hz1 hz2 rfl B1 m1' d1 _ rfl (kept_alloc q1 _) _ 8 8 (nums eight) rfl (eight_sl _) (by simp only [maxLen]; omega) (by omega) (hx2.alloc _).size ?_); intro B2 m2' d2 w3 q2 hg2 hat2; have hx3 := (hx2.alloc _).app (kept_alloc q1 _) hg2; rw [← nums_append] at q2; have hcd : n0 ≤ d2 := (by have h1 := q2.len; have h2 := q2.cap_.1; rw [nums_length, List.length_append, LX.out] at h1; omega); have hup := fun W => run_upto (P := Tryd.prog) 23 5 Tryd.underlying23 (fun _ => by kernel_rfl) B2 m2' d2 .i64 (n0 : Int) n0 rfl hcd W; clear _t q1 hg2 hat2 hx2))
  have hm2 : m2' = n0 + 8 := by have := q2.len; rw [nums_length, List.length_append, LX.out] at this; exact this
  subst hm2
  have hc2 := q2.cap_.1
  obtain ⟨g, off, rfl, hgb, hcell⟩ := By.open_ (l := l0 ++ eight) q2.sl (by omega)
  have HC := Lib.hid hcell
  have sg0 := By.upto (j := n0) (l := l0 ++ eight) q2.sl (by omega)
  have ht : Hid ((l0 ++ eight).take n0 = l0) := by show _ = _; rw [← LX.out, List.take_left]
  rw [ht.out] at sg0
  clear q2 hcell
  refine (append_any _ _ _ l0 a1 _ sg0 r0 r1 (by omega)).mono ?_
  rintro e w4 ⟨A4, n4, c4, rfl, o4, x4⟩
  have hel := enc_length a1
  have hn4 : n0 < n4 ∧ n4 ≤ n0 + 4 := by have := o4.len; rw [nums_length, List.length_append, LX.out] at this; omega
  obtain ⟨hn4, hn4'⟩ := hn4
  have hc4 := o4.cap_.1
  have so0 := By.upto (j := n0) (l := l0 ++ encodeRune a1) o4.sl (by omega)
  have ht4 : Hid ((l0 ++ encodeRune a1).take n0 = l0) := by show _ = _; rw [← LX.out, List.take_left]
  rw [ht4.out] at so0
  have y4 := hx3.trans x4
  have s4 := sg0.next x4
  clear o4 hel
  go_wp2_with fail
  refine (decode_any _ _ _ l0 _ (hT.next y4) s4).mono ?_
  rw [hD.out]
  rintro e w5 ⟨rfl, x5⟩
  have z5 := x4.trans x5
  go_wp2_with fail
  refine (last_any _ _ _ l0 _ (hT.next (hx3.trans z5)) (sg0.next z5) (by omega) (by omega)).mono ?_
  rw [hS.out]
  rintro e w6 ⟨rfl, x6⟩
  have z6 := z5.trans x6
  go_wp2_with fail
  refine (fullR_any _ _ _ l0 _ (hT.next (hx3.trans z6)) (sg0.next z6) (by omega)).mono ?_
  rw [hF.out]
  rintro e w7 ⟨rfl, x7⟩
  have z7 := z6.trans x7
  go_wp2_with fail
  refine (count_any _ _ _ l0 _ (sg0.next z7) (by omega) (by omega)).mono ?_
  rw [hK.out]
  rintro e w8 ⟨rfl, x8⟩
  have z8 := z7.trans x8
  go_wp2_with fail
  refine (valid_any _ _ _ l0 _ (hT.next (hx3.trans z8)) (sg0.next z8) (by omega) (by omega)).mono ?_
  rw [hV.out]
  rintro e w9 ⟨rfl, x9⟩
  have z9 := z8.trans x9
  have so9 := ((((so0.next x5).next x6).next x7).next x8).next x9
  have Q : Hid (∀ i, i < 8 → w9.cell? ⟨g, off + (n0 + i), none⟩ = some (.int .u8 ((i : Int) + 1))) := fun i h => by
    rw [z9.cell (p := ⟨g, off + (n0 + i), none⟩) hgb, HC.out (n0 + i) (by omega), ← LX.out, eight_at l0 i h]
  clear so0 s4 x4 x5 x6 x7 x8 x9 z5 z6 z7 z8 y4 hup
  go_wp2_with fail
  go_loop [9] (fun v => ∃ i : Nat, i ≤ 8 ∧ v = .int .i64 i) (fun v => 8 - (RowKit.intOf v).toNat)
  case atStart => exact ⟨0, Nat.zero_le _, rfl⟩
  case round =>
    obtain ⟨i, hi, rfl⟩ := hrel
    by_cases hlt : i < 8
    · have q1 := Q.out i hlt
      have hii : (n0 : Int) + (i : Int) < ((n0 + 8 : Nat) : Int) := by omega
      have HN : (n0 : Int) + (i : Int) = ((n0 + i : Nat) : Int) := by omega
      have z1 : (((i : Int) + 1) != ((i : Int) + 1)) = false := by simp
      have HNN := Lib.hid HN
      clear HN
      go_wp2_with fail
      go_round
      case rel => exact ⟨i + 1, by omega, by go_num⟩
      case measure => simp [RowKit.intOf]; omega
    · have hup4 := fun W => run_upto (P := Tryd.prog) 23 5 Tryd.underlying23 (fun _ => by kernel_rfl) A4 n4 c4 .i64 (n0 : Int) n0 rfl (by omega) W
      have y9 := hx3.trans z9
      have zz : (n0 : Int) < (n4 : Int) := by omega
      go_wp2_with fail
      refine (same_u8_by _ _ _ _ _ _ l0 l0 _ (sg0.next z9) (e0.next y9) (by omega) (by omega)).mono ?_
      rw [eqB_refl]
      rintro e w10 ⟨rfl, x10⟩
      have y10 := y9.trans x10
      go_wp2_with fail
      refine (same_u8_by _ _ _ _ _ _ l0 l0 _ (so9.next x10) (e0.next y10) (by omega) (by omega)).mono ?_
      rw [eqB_refl]
      rintro e w11 ⟨rfl, x11⟩
      have y11 := y10.trans x11
      go_wp2_with fail
      refine (specCount_any _ _ _ l0 _ (e0.next y11) g0 (by omega)).mono ?_
      rw [hK.out]
      rintro e w12 ⟨rfl, x12⟩
      go_wp2_with fail
      go_ret
      exact ⟨rfl, y11.trans x12⟩
namespace fnArguments
open Go.ChangeShapes Go.WideShapes Go.ChangeAt Go.RowKit
open Go.ChangeMaps (open_string shut_string)
set_option maxRecDepth 100000 in
set_option linter.unusedVariables false in
theorem laid_met (os : Os) : laidMet Tryd.prog Rows.fnArgumentsUptoRow.laid ((laidWorld os).forCall (fun _ _ => 0) ⟨#[], #[.slice none 0 0, .int .i32 0], []⟩).memory :=
  laidMet_of_run' 8 (by kernel_rfl) (by kernel_rfl)
theorem reads (os : Os) {H : Type} (enc : TypeId × Value → H) : ∃ places, DataW.whole enc Tryd.prog ((laidWorld os).forCall (fun _ _ => 0) ⟨#[], #[.slice none 0 0, .int .i32 0], []⟩).memory Tryd.f6.params.toList Rows.fnArgumentsSpec.vars false (#[.slice none 0 0, .int .i32 0] : Array Value).toList 8 = some ([.nil, .lit (.int .i32 0)], [], places) :=
  ⟨[], by kernel_rfl⟩
set_option maxRecDepth 100000 in
set_option linter.unusedVariables false in
theorem lifted (os : Os) (started : os.Started) (H : Type) (enc : TypeId × Value → H) (F : Stop.Interp) :
    ReturnsInHanded {} Tryd.checked os 6 .any ((Rows.OpenSpec.upto Rows.fnArgumentsSpec).preRow enc Tryd.prog Tryd.f6 Rows.fnArgumentsUptoRow.domain false Rows.fnArgumentsUptoRow.laid) (((Rows.OpenSpec.upto Rows.fnArgumentsSpec).at F).post enc Tryd.prog Tryd.f6 false true false false) := by
  obtain ⟨places, hx⟩ := reads os enc
  refine returnsInHanded_of_row (C := Tryd.checked) (s := (Rows.OpenSpec.upto Rows.fnArgumentsSpec)) own started (by kernel_rfl) Tryd.func6
    (witness_row_at (enc := enc) (C := Tryd.checked) false (laidWorld os) #[.slice none 0 0, .int .i32 0] rfl (by kernel_rfl) (by kernel_rfl) (by kernel_rfl)
      (OpenSpec.preRow_of_cond 8 hx (by kernel_rfl) (fun k hk => by cases hk; kernel_rfl) (by kernel_rfl) (laid_met os))) ?_
  intro W base args ds gs before hval0 hW _ hkk hsz0 hL _ _
  have hk := hkk _ rfl
  have hval : ∀ (j : Nat) t v, Tryd.f6.params[j]? = some t → args[j]? = some v → Value.okWide Tryd.prog W .any base t v := hval0
  have hW' := hW
  obtain ⟨p, q, hA0, hV, rfl, hfz, hnd⟩ := hW
  have hA : DataW.TrodAll enc Tryd.prog W 0 (fun _ => true) true Tryd.f6.params.toList args.toList ds p := hA0
  rw [Tryd.params6] at hA hval
  obtain ⟨v0, vs0, d0, ds0, p0, q0, hargs, rfl, rfl, h0, r0⟩ := trodAll_cons hA
  obtain ⟨v1, vs1, d1, ds1, p1, q1, rfl, rfl, rfl, h1, r1⟩ := trodAll_cons r0
  obtain ⟨rfl, rfl, rfl⟩ := trodAll_nil r1
  obtain rfl : args = #[v0, v1] := by cases args; simp_all
  obtain ⟨rfl, rfl⟩ := trodVars_none hV
  have k0 := h0
  have lt0 : ∀ x ∈ p0, x.block < W.heap.size := by obtain ⟨m, hm⟩ := k0; exact DataW.trod_lt m _ _ _ hm
  obtain ⟨A0, n0, c0, l0, rfl, e0, g0, m0, u0⟩ := open_by Tryd.underlying23 Tryd.underlying5 (by kernel_rfl) (hval 0 23 v0 rfl rfl) h0
  have z0 : c0 ≤ 1048576 := by have := bulk_held u0; have hb := bulk_bound hk; simp only [Rows.uptoBulkAll, List.append_nil] at hb; omega
  have k1 := h1
  have lt1 : ∀ x ∈ p1, x.block < W.heap.size := by obtain ⟨m, hm⟩ := k1; exact DataW.trod_lt m _ _ _ hm
  obtain ⟨a1, rfl, rfl, rfl, w1⟩ := open_int Tryd.underlying21 (hval 1 21 v1 rfl rfl) h1
  have b1 : -2147483648 ≤ a1 ∧ a1 ≤ 2147483647 := by simpa [Lit.wf, IntKind.min, IntKind.max, IntKind.signed, IntKind.bits] using w1
  clear hA0 hval0
  refine (fnArguments_walk A0 n0 c0 l0 a1 W (tabs hL) e0 g0 z0 b1).mono fun e W' ⟨he, bel⟩ => ?_
  subst he
  exact ⟨_, rfl, _, _, _, [], _, [], hW', trodAll_mk1 (shut_bool Tryd.underlying4 _), (trodAll_cons_mk (Below.trod laidOut (by kernel_rfl) (of_decide_eq_true (by kernel_rfl)) k0 bel.out lt0) (trodAll_cons_mk (shut_int Tryd.underlying21 w1) trodAll_mk0)), rfl, bel.out.frame _, fun h => by cases h⟩
theorem row : Rows.FnArgumentsUptoSaid :=
  OpenClaim.holds_of_cond 6 Tryd.f6 rfl rfl rfl rfl rfl rfl rfl ⟨rfl, rfl, rfl, rfl, rfl⟩ rfl rfl rfl rfl rfl (by kernel_rfl) Tryd.func6 (by kernel_rfl)
    (of_decide_eq_true (by kernel_rfl)) (by unfold Func.isWrapper; first | (rw [if_pos (by decide +kernel)]; kernel_rfl) | (rw [if_neg (by decide +kernel)]; exact ⟨rfl, rfl⟩))
    (fun os started H enc _ F => by rw [OpenClaim.pre_eq_preRow]; exact lifted os started H enc F)
theorem plain (f : FuncId) (fn : Func) (hf : Tryd.pinned.checked.prog.funcNamed Rows.fnArgumentsUptoRow.func = some f) (hfn : Tryd.pinned.checked.prog.funcs[f]? = some fn) :
    false = Tryd.pinned.checked.prog.looks [] ∧ ∀ (j : Nat) t, fn.params[j]? = some t → Tryd.pinned.checked.prog.wantsStandIn t = false := by
  obtain rfl : f = 6 := Option.some.inj ((show Tryd.prog.funcNamed Rows.fnArgumentsUptoRow.func = some 6 by kernel_rfl).symm.trans hf) |>.symm
  obtain rfl : fn = Tryd.f6 := (Option.some.inj (Tryd.func6.symm.trans hfn)).symm
  refine ⟨by kernel_rfl, fun j t ht => ?_⟩
  rw [Tryd.params6] at ht
  have hm := Array.mem_of_getElem? ht
  have hor : t = 21 ∨ t = 23 := by simp at hm; first | exact hm.symm | (rcases hm with h | h <;> simp [h]) | (rcases hm with h | h | h <;> simp [h]) | (rcases hm with h | h | h | h <;> simp [h])
  rcases hor with rfl | rfl
  · exact (show Tryd.prog.wantsStandIn 21 = false by kernel_rfl)
  · exact (show Tryd.prog.wantsStandIn 23 = false by kernel_rfl)
theorem said : Rows.FnArgumentsUptoCardSaid :=
  Claim7.holds_tied_plain_at .later [] _ _ _ _ row (fun _ h => by cases h) (by kernel_rfl) (fun _ h => by cases h) fnArgumentsUpto_row_tie rfl ⟨rfl, rfl⟩ (by kernel_rfl) rfl plain (by kernel_rfl)
end fnArguments
end Go.Proofs.YtelejafniamgiaaDoor
