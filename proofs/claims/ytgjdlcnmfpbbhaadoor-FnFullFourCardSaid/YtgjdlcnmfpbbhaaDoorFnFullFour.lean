/- FnFullFour: as many bytes as UTFMax tells are always a full rune. The tables are those that the program lays. -/
import Derived.Test.YtgjdlcnmfpbbhaaDoorFrame
import Derived.Test.YtgjdlcnmfpbbhaaDoorFullI
import Derived.Test.YtgjdlcnmfpbbhaaDoorConst
import Derived.Test.YtgjdlcnmfpbbhaaDoorJoined
import Derived.Test.YtgjdlcnmfpbbhaaDoorLits
namespace Go.Proofs.YtgjdlcnmfpbbhaaDoor
open Go.RowKit Go.Lib
set_option linter.unusedVariables false
set_option maxRecDepth 100000 in
set_option maxHeartbeats 1000000 in
theorem fnFullFour_walk (a0 a1 a2 a3 : Int) (A4 : Option Addr) (n4 c4 : Nat) (l4 : List UInt8) (w : World) (hT : Tabs w) (b0 : 0 ≤ a0 ∧ a0 ≤ 255) (b1 : 0 ≤ a1 ∧ a1 ≤ 255) (b2 : 0 ≤ a2 ∧ a2 ≤ 255) (b3 : 0 ≤ a3 ∧ a3 ≤ 255) (e4 : By w A4 n4 l4) (g4 : n4 ≤ c4) (m4 : c4 ≤ 140737488351232) :
    Calls Tryd.prog 7 #[.int .u8 a0, .int .u8 a1, .int .u8 a2, .int .u8 a3, .slice A4 n4 c4] w fun e w' => e = .returned (.bool true) ∧ Nx w w' := by
  have LX := Lib.hid e4.len
  obtain ⟨L, hL⟩ : ∃ L, Hid (bytesOf [a0, a1, a2, a3] = L) := ⟨_, rfl⟩
  have hLl : L.length = 4 := by rw [← hL.out]; rfl
  have s0 : By (w.alloc (.cells #[.int .u8 a0, .int .u8 a1, .int .u8 a2, .int .u8 a3] 5)) (some ⟨w.heap.size, 0, none⟩) 4 L := by
    rw [← hL.out]
    refine lit_by _ w [a0, a1, a2, a3] _ 4 ?_ rfl rfl (by simp)
    intro z hz
    simp only [List.mem_cons, List.not_mem_nil, or_false] at hz
    rcases hz with rfl | rfl | rfl | rfl <;> assumption
  have x0 : Nx w (w.alloc (.cells #[.int .u8 a0, .int .u8 a1, .int .u8 a2, .int .u8 a3] 5)) := (Nx.refl w).alloc _
  have hf : Hid (fullB (L ++ l4) = true) := by
    show _ = _
    have h1 : (L ++ l4).length = 4 + n4 := by rw [List.length_append, hLl, LX.out]
    rw [full_eq _ (by intro h; rw [h] at h1; simp at h1; omega), beg_long _ (by omega)]
    rfl
  clear b0 b1 b2 b3
  go_enter Tryd.func7, Tryd.ntmps7
  go_wp2_with fail
  refine (joined_any _ _ _ L _ _ _ l4 _ s0 (e4.next x0) (by omega)).mono ?_
  rintro e w1 ⟨A1, n1, c1, rfl, o1, x1⟩
  have y1 := x0.trans x1
  have hn1 : n1 ≤ 4 + n4 := by have := o1.len; rw [nums_length, List.length_append, hLl, LX.out] at this; omega
  go_wp2_with fail
  refine (constants_any _).mono ?_
  rintro e w' ⟨rfl, rfl⟩
  go_wp2_with fail
  refine (fullR_any _ _ _ (L ++ l4) _ (hT.next y1) o1.sl (by omega)).mono ?_
  rw [hf.out]
  rintro e w2 ⟨rfl, x2⟩
  have y2 := y1.trans x2
  have s2 : By w2 A1 n1 (L ++ l4) := o1.sl.next x2
  have t1 := run_bytes_str (P := Tryd.prog) 22 9 5 Tryd.underlying22 Tryd.underlying5 Tryd.underlying9 w2 A1 n1 c1 _ s2
  obtain ⟨X, hX⟩ : ∃ X, Hid (strOf (L ++ l4) = X) := ⟨_, rfl⟩
  have hXs : X.size ≤ 140737488355328 := by rw [← hX.out, strOf_size, List.length_append, hLl, LX.out]; omega
  have hXd : Hid (X.data.toList = L ++ l4) := by show _ = _; rw [← hX.out, strOf_data]
  rw [hX.out] at t1
  go_wp2_with fail
  refine (fullS_any X _ (hT.next y2) (by omega)).mono ?_
  rw [hXd.out, hf.out]
  rintro e w3 ⟨rfl, x3⟩
  go_wp2_with fail
  go_ret
  exact ⟨rfl, y2.trans x3⟩
namespace fnFullFour
open Go.ChangeShapes Go.WideShapes Go.ChangeAt Go.RowKit
open Go.ChangeMaps (open_string shut_string)
set_option maxRecDepth 100000 in
set_option linter.unusedVariables false in
theorem laid_met (os : Os) : laidMet Tryd.prog Rows.fnFullFourRow.laid ((laidWorld os).forCall (fun _ _ => 0) ⟨#[], #[.int .u8 0, .int .u8 0, .int .u8 0, .int .u8 0, .slice none 0 0], []⟩).memory :=
  laidMet_of_run' 8 (by kernel_rfl) (by kernel_rfl)
theorem reads (os : Os) {H : Type} (enc : TypeId × Value → H) : ∃ places, DataW.whole enc Tryd.prog ((laidWorld os).forCall (fun _ _ => 0) ⟨#[], #[.int .u8 0, .int .u8 0, .int .u8 0, .int .u8 0, .slice none 0 0], []⟩).memory Tryd.f7.params.toList Rows.fnFullFourSpec.vars false (#[.int .u8 0, .int .u8 0, .int .u8 0, .int .u8 0, .slice none 0 0] : Array Value).toList 8 = some ([.lit (.int .u8 0), .lit (.int .u8 0), .lit (.int .u8 0), .lit (.int .u8 0), .nil], [], places) :=
  ⟨[], by kernel_rfl⟩
set_option maxRecDepth 100000 in
set_option linter.unusedVariables false in
theorem lifted (os : Os) (started : os.Started) (H : Type) (enc : TypeId × Value → H) (F : Stop.Interp) :
    ReturnsInHanded {} Tryd.checked os 7 .any ((OpenSpec.ofChange Rows.fnFullFourSpec).preRow enc Tryd.prog Tryd.f7 Rows.fnFullFourRow.domain false Rows.fnFullFourRow.laid) (((OpenSpec.ofChange Rows.fnFullFourSpec).at F).post enc Tryd.prog Tryd.f7 false true false false) := by
  obtain ⟨places, hx⟩ := reads os enc
  refine returnsInHanded_of_row (C := Tryd.checked) (s := (OpenSpec.ofChange Rows.fnFullFourSpec)) own started (by kernel_rfl) Tryd.func7
    (witness_row_at (enc := enc) (C := Tryd.checked) false (laidWorld os) #[.int .u8 0, .int .u8 0, .int .u8 0, .int .u8 0, .slice none 0 0] rfl (by kernel_rfl) (by kernel_rfl) (by kernel_rfl)
      (OpenSpec.preRow_of_cond 8 hx (by kernel_rfl) (fun k hk => by cases hk) (by kernel_rfl) (laid_met os))) ?_
  intro W base args ds gs before hval0 hW _ hkk hsz0 hL _ _
  have hsz : (DataW.weightsEach Tryd.prog (Tryd.f7.params.toList ++ (OpenSpec.ofChange Rows.fnFullFourSpec).bare.plain.varTypes Tryd.prog) (ds ++ gs)).all (· ≤ reachBytes) = true := hsz0
  rw [Tryd.params7] at hsz
  have hval : ∀ (j : Nat) t v, Tryd.f7.params[j]? = some t → args[j]? = some v → Value.okWide Tryd.prog W .any base t v := hval0
  have hW' := hW
  obtain ⟨p, q, hA0, hV, rfl, hfz, hnd⟩ := hW
  have hA : DataW.TrodAll enc Tryd.prog W 0 (fun _ => true) true Tryd.f7.params.toList args.toList ds p := hA0
  rw [Tryd.params7] at hA hval
  obtain ⟨v0, vs0, d0, ds0, p0, q0, hargs, rfl, rfl, h0, r0⟩ := trodAll_cons hA
  obtain ⟨v1, vs1, d1, ds1, p1, q1, rfl, rfl, rfl, h1, r1⟩ := trodAll_cons r0
  obtain ⟨v2, vs2, d2, ds2, p2, q2, rfl, rfl, rfl, h2, r2⟩ := trodAll_cons r1
  obtain ⟨v3, vs3, d3, ds3, p3, q3, rfl, rfl, rfl, h3, r3⟩ := trodAll_cons r2
  obtain ⟨v4, vs4, d4, ds4, p4, q4, rfl, rfl, rfl, h4, r4⟩ := trodAll_cons r3
  obtain ⟨rfl, rfl, rfl⟩ := trodAll_nil r4
  obtain rfl : args = #[v0, v1, v2, v3, v4] := by cases args; simp_all
  obtain ⟨rfl, rfl⟩ := trodVars_none hV
  have k0 := h0
  have lt0 : ∀ x ∈ p0, x.block < W.heap.size := by obtain ⟨m, hm⟩ := k0; exact DataW.trod_lt m _ _ _ hm
  obtain ⟨a0, rfl, rfl, rfl, w0⟩ := open_int Tryd.underlying5 (hval 0 5 v0 rfl rfl) h0
  have b0 : 0 ≤ a0 ∧ a0 ≤ 255 := by simpa [Lit.wf, IntKind.min, IntKind.max, IntKind.signed, IntKind.bits] using w0
  have k1 := h1
  have lt1 : ∀ x ∈ p1, x.block < W.heap.size := by obtain ⟨m, hm⟩ := k1; exact DataW.trod_lt m _ _ _ hm
  obtain ⟨a1, rfl, rfl, rfl, w1⟩ := open_int Tryd.underlying5 (hval 1 5 v1 rfl rfl) h1
  have b1 : 0 ≤ a1 ∧ a1 ≤ 255 := by simpa [Lit.wf, IntKind.min, IntKind.max, IntKind.signed, IntKind.bits] using w1
  have k2 := h2
  have lt2 : ∀ x ∈ p2, x.block < W.heap.size := by obtain ⟨m, hm⟩ := k2; exact DataW.trod_lt m _ _ _ hm
  obtain ⟨a2, rfl, rfl, rfl, w2⟩ := open_int Tryd.underlying5 (hval 2 5 v2 rfl rfl) h2
  have b2 : 0 ≤ a2 ∧ a2 ≤ 255 := by simpa [Lit.wf, IntKind.min, IntKind.max, IntKind.signed, IntKind.bits] using w2
  have k3 := h3
  have lt3 : ∀ x ∈ p3, x.block < W.heap.size := by obtain ⟨m, hm⟩ := k3; exact DataW.trod_lt m _ _ _ hm
  obtain ⟨a3, rfl, rfl, rfl, w3⟩ := open_int Tryd.underlying5 (hval 3 5 v3 rfl rfl) h3
  have b3 : 0 ≤ a3 ∧ a3 ≤ 255 := by simpa [Lit.wf, IntKind.min, IntKind.max, IntKind.signed, IntKind.bits] using w3
  have k4 := h4
  have lt4 : ∀ x ∈ p4, x.block < W.heap.size := by obtain ⟨m, hm⟩ := k4; exact DataW.trod_lt m _ _ _ hm
  obtain ⟨A4, n4, c4, l4, rfl, e4, g4, m4, u4⟩ := open_by Tryd.underlying22 Tryd.underlying5 (by kernel_rfl) (hval 4 22 v4 rfl rfl) h4
  have z4 : c4 ≤ 140737488351232 := by have := held_size (j := 4) (t := 22) (b := 1) hsz (by kernel_rfl) (by rfl) rfl Tryd.underlying22 u4; omega
  clear hA0 hval0
  refine (fnFullFour_walk a0 a1 a2 a3 A4 n4 c4 l4 W (tabs hL) b0 b1 b2 b3 e4 g4 z4).mono fun e W' ⟨he, bel⟩ => ?_
  subst he
  exact ⟨_, rfl, _, _, _, [], _, [], hW', trodAll_mk1 (shut_bool Tryd.underlying4 _), (trodAll_cons_mk (shut_int Tryd.underlying5 w0) (trodAll_cons_mk (shut_int Tryd.underlying5 w1) (trodAll_cons_mk (shut_int Tryd.underlying5 w2) (trodAll_cons_mk (shut_int Tryd.underlying5 w3) (trodAll_cons_mk (Below.trod laidOut (by kernel_rfl) (of_decide_eq_true (by kernel_rfl)) k4 bel.out lt4) trodAll_mk0))))), rfl, bel.out.frame _, fun h => by cases h⟩
theorem row : Rows.FnFullFourSaid :=
  OpenClaim.holds_of_cond 7 Tryd.f7 rfl rfl rfl rfl rfl rfl rfl ⟨rfl, rfl, rfl, rfl, rfl⟩ rfl rfl rfl rfl rfl (by kernel_rfl) Tryd.func7 (by kernel_rfl)
    (of_decide_eq_true (by kernel_rfl)) (by unfold Func.isWrapper; first | (rw [if_pos (by decide +kernel)]; kernel_rfl) | (rw [if_neg (by decide +kernel)]; exact ⟨rfl, rfl⟩))
    (fun os started H enc _ F => by rw [OpenClaim.pre_eq_preRow]; exact lifted os started H enc F)
theorem plain (f : FuncId) (fn : Func) (hf : Tryd.pinned.checked.prog.funcNamed Rows.fnFullFourRow.func = some f) (hfn : Tryd.pinned.checked.prog.funcs[f]? = some fn) :
    false = Tryd.pinned.checked.prog.looks [] ∧ ∀ (j : Nat) t, fn.params[j]? = some t → Tryd.pinned.checked.prog.wantsStandIn t = false := by
  obtain rfl : f = 7 := Option.some.inj ((show Tryd.prog.funcNamed Rows.fnFullFourRow.func = some 7 by kernel_rfl).symm.trans hf) |>.symm
  obtain rfl : fn = Tryd.f7 := (Option.some.inj (Tryd.func7.symm.trans hfn)).symm
  refine ⟨by kernel_rfl, fun j t ht => ?_⟩
  rw [Tryd.params7] at ht
  have hm := Array.mem_of_getElem? ht
  have hor : t = 5 ∨ t = 22 := by simp at hm; omega
  rcases hor with rfl | rfl
  · exact (show Tryd.prog.wantsStandIn 5 = false by kernel_rfl)
  · exact (show Tryd.prog.wantsStandIn 22 = false by kernel_rfl)
theorem said : Rows.FnFullFourCardSaid :=
  Claim7.holds_tied_plain_at .later [] _ _ _ _ row (fun _ h => by cases h) (by kernel_rfl) (fun _ h => by cases h) fnFullFour_row_tie rfl ⟨rfl, rfl⟩ (by kernel_rfl) rfl plain (by kernel_rfl)
end fnFullFour
end Go.Proofs.YtgjdlcnmfpbbhaaDoor
