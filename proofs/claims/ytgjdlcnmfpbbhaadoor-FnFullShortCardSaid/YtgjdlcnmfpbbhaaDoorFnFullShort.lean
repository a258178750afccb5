/- FnFullShort: for one to three bytes, FullRune says no just if they are a proper beginning of the encoding of a rune. The tables are those that the program lays. -/
import Derived.Test.YtgjdlcnmfpbbhaaDoorFrame
import Derived.Test.YtgjdlcnmfpbbhaaDoorFullI
import Derived.Test.YtgjdlcnmfpbbhaaDoorBegins
import Derived.Test.YtgjdlcnmfpbbhaaDoorLits
import Derived.Deep.RegionHeld3
namespace Go.Proofs.YtgjdlcnmfpbbhaaDoor
open Go.RowKit Go.Lib
set_option linter.unusedVariables false
set_option maxRecDepth 100000 in
set_option maxHeartbeats 4000000 in
theorem fnFullShort_walk (a0 a1 a2 a3 : Int) (w : World) (hT : Tabs w) (b0 : 0 ≤ a0 ∧ a0 ≤ 255) (b1 : 0 ≤ a1 ∧ a1 ≤ 255) (b2 : 0 ≤ a2 ∧ a2 ≤ 255) (b3 : -9223372036854775808 ≤ a3 ∧ a3 ≤ 9223372036854775807) :
    Calls Tryd.prog 6 #[.int .u8 a0, .int .u8 a1, .int .u8 a2, .int .i64 a3] w fun e w' => e = .returned (.bool true) ∧ Nx w w' := by
  by_cases hlo : a3 < 1
  · go_enter Tryd.func6, Tryd.ntmps6
    go_wp2_with fail
    go_ret
    exact ⟨rfl, Nx.refl _⟩
  · have zlo : decide (a3 < 1) = false := by simp; omega
    by_cases hhi : 3 < a3
    · go_enter Tryd.func6, Tryd.ntmps6
      go_wp2_with fail
      go_ret
      exact ⟨rfl, Nx.refl _⟩
    · have zhi : decide (3 < a3) = false := by simp; omega
      obtain ⟨N, rfl⟩ : ∃ N : Nat, a3 = (N : Int) := ⟨a3.toNat, by omega⟩
      have N1 : 1 ≤ N := by omega
      have N3 : N ≤ 3 := by omega
      obtain ⟨L, hL⟩ : ∃ L, Hid ((bytesOf [a0, a1, a2]).take N = L) := ⟨_, rfl⟩
      have hLl : Hid (L.length = N) := by show _ = _; rw [← hL.out, List.length_take, bytesOf_len]; simp; omega
      have s0 : By (w.alloc (.cells #[.int .u8 a0, .int .u8 a1, .int .u8 a2] 5)) (some ⟨w.heap.size, 0, none⟩) N L := by
        rw [← hL.out]
        refine By.upto (n := 3) (lit_by _ w [a0, a1, a2] _ 3 ?_ rfl rfl (by simp)) N3
        intro z hz
        simp only [List.mem_cons, List.not_mem_nil, or_false] at hz
        rcases hz with rfl | rfl | rfl <;> assumption
      have x0 : Nx w (w.alloc (.cells #[.int .u8 a0, .int .u8 a1, .int .u8 a2] 5)) := (Nx.refl w).alloc _
      have hne : L ≠ [] := by intro h; have := hLl.out; rw [h] at this; simp at this; omega
      obtain ⟨X, hX⟩ : ∃ X, Hid (strOf L = X) := ⟨_, rfl⟩
      have hXd : Hid (X.data.toList = L) := by show _ = _; rw [← hX.out, strOf_data]
      have hXs : X.size ≤ 3 := by rw [← hX.out, strOf_size, hLl.out]; exact N3
      have cf := Lib.hid fun W (h : Nx (w.alloc (.cells #[.int .u8 a0, .int .u8 a1, .int .u8 a2] 5)) W) => nx_mono h (fullR_any (some ⟨w.heap.size, 0, none⟩) N 3 L W (hT.next (x0.trans h)) (s0.next h) (by omega))
      have cb := Lib.hid fun W (h : Nx (w.alloc (.cells #[.int .u8 a0, .int .u8 a1, .int .u8 a2] 5)) W) => nx_mono h (begins_any (some ⟨w.heap.size, 0, none⟩) N 3 L W (s0.next h) (by omega))
      have cs := Lib.hid fun W (h : Nx (w.alloc (.cells #[.int .u8 a0, .int .u8 a1, .int .u8 a2] 5)) W) => nx_mono h (fullS_any X W (hT.next (x0.trans h)) (by omega))
      rw [hXd.out] at cs
      have tb : ∀ W, Nx (w.alloc (.cells #[.int .u8 a0, .int .u8 a1, .int .u8 a2] 5)) W → (convert 22 9 (.slice (some ⟨w.heap.size, 0, none⟩) N 3)).run Tryd.prog W = .ok (.string X) W := fun W h => by
        rw [← hX.out]
        exact run_bytes_str (P := Tryd.prog) 22 9 5 Tryd.underlying22 Tryd.underlying5 Tryd.underlying9 W _ N 3 _ (s0.next h)
      have hup := fun W => run_upto (P := Tryd.prog) 22 5 Tryd.underlying22 (fun _ => by kernel_rfl) (some ⟨w.heap.size, 0, none⟩) 3 3 .i64 (N : Int) N rfl N3 W
      have hfe := full_eq L hne
      clear b0 b1 b2 b3 hlo hhi s0 hne
      cases hB : begB L with
      | true =>
        have hf : fullB L = false := by rw [hfe, hB]; rfl
        clear hfe
        rw [hf] at cf cs
        rw [hB] at cb
        clear hB hf hT
        go_enter Tryd.func6, Tryd.ntmps6
        go_wp2_with (first | (go_at_call 19; refine (cf.out _ (by first | exact Nx.refl _ | assumption)).mono ?_; rintro e w3 ⟨rfl, x3⟩) | (go_at_call 26; refine (cb.out _ (by first | exact x5 | exact x3)).mono ?_; rintro e w4 ⟨rfl, x4⟩; have t4 := tb _ x4) | (go_at_call 20; refine (cs.out _ (by exact x4)).mono ?_; rintro e w5 ⟨rfl, x5⟩))
        all_goals go_ret
        all_goals exact ⟨rfl, x0.trans (by assumption)⟩
      | false =>
        have hf : fullB L = true := by rw [hfe, hB]; rfl
        clear hfe
        rw [hf] at cf cs
        rw [hB] at cb
        clear hB hf hT
        go_enter Tryd.func6, Tryd.ntmps6
        go_wp2_with (first | (go_at_call 19; refine (cf.out _ (by first | exact Nx.refl _ | assumption)).mono ?_; rintro e w3 ⟨rfl, x3⟩) | (go_at_call 26; refine (cb.out _ (by first | exact x5 | exact x3)).mono ?_; rintro e w4 ⟨rfl, x4⟩; have t4 := tb _ x4) | (go_at_call 20; refine (cs.out _ (by exact x4)).mono ?_; rintro e w5 ⟨rfl, x5⟩))
        all_goals go_ret
        all_goals exact ⟨rfl, x0.trans (by assumption)⟩
namespace fnFullShort
open Go.ChangeShapes Go.WideShapes Go.ChangeAt Go.RowKit
open Go.ChangeMaps (open_string shut_string)
set_option maxRecDepth 100000 in
set_option linter.unusedVariables false in
theorem laid_met (os : Os) : laidMet Tryd.prog Rows.fnFullShortRow.laid ((laidWorld os).forCall (fun _ _ => 0) ⟨#[], #[.int .u8 0, .int .u8 0, .int .u8 0, .int .i64 0], []⟩).memory :=
  laidMet_of_run' 8 (by kernel_rfl) (by kernel_rfl)
theorem reads (os : Os) {H : Type} (enc : TypeId × Value → H) : ∃ places, DataW.whole enc Tryd.prog ((laidWorld os).forCall (fun _ _ => 0) ⟨#[], #[.int .u8 0, .int .u8 0, .int .u8 0, .int .i64 0], []⟩).memory Tryd.f6.params.toList Rows.fnFullShortSpec.vars false (#[.int .u8 0, .int .u8 0, .int .u8 0, .int .i64 0] : Array Value).toList 8 = some ([.lit (.int .u8 0), .lit (.int .u8 0), .lit (.int .u8 0), .lit (.int .i64 0)], [], places) :=
  ⟨[], by kernel_rfl⟩
set_option maxRecDepth 100000 in
set_option linter.unusedVariables false in
theorem lifted (os : Os) (started : os.Started) (H : Type) (enc : TypeId × Value → H) (F : Stop.Interp) :
    ReturnsInHanded {} Tryd.checked os 6 .any ((OpenSpec.ofChange Rows.fnFullShortSpec).preRow enc Tryd.prog Tryd.f6 Rows.fnFullShortRow.domain false Rows.fnFullShortRow.laid) (((OpenSpec.ofChange Rows.fnFullShortSpec).at F).post enc Tryd.prog Tryd.f6 false true false false) := by
  obtain ⟨places, hx⟩ := reads os enc
  refine returnsInHanded_of_row (C := Tryd.checked) (s := (OpenSpec.ofChange Rows.fnFullShortSpec)) own started (by kernel_rfl) Tryd.func6
    (witness_row_at (enc := enc) (C := Tryd.checked) false (laidWorld os) #[.int .u8 0, .int .u8 0, .int .u8 0, .int .i64 0] rfl (by kernel_rfl) (by kernel_rfl) (by kernel_rfl)
      (OpenSpec.preRow_of_cond 8 hx (by kernel_rfl) (fun k hk => by cases hk) (by kernel_rfl) (laid_met os))) ?_
  intro W base args ds gs before hval0 hW _ hkk hsz0 hL _ _
  have hsz : (DataW.weightsEach Tryd.prog (Tryd.f6.params.toList ++ (OpenSpec.ofChange Rows.fnFullShortSpec).bare.plain.varTypes Tryd.prog) (ds ++ gs)).all (· ≤ reachBytes) = true := hsz0
  rw [Tryd.params6] at hsz
  have hval : ∀ (j : Nat) t v, Tryd.f6.params[j]? = some t → args[j]? = some v → Value.okWide Tryd.prog W .any base t v := hval0
  have hW' := hW
  obtain ⟨p, q, hA0, hV, rfl, hfz, hnd⟩ := hW
  have hA : DataW.TrodAll enc Tryd.prog W 0 (fun _ => true) true Tryd.f6.params.toList args.toList ds p := hA0
  rw [Tryd.params6] at hA hval
  obtain ⟨v0, vs0, d0, ds0, p0, q0, hargs, rfl, rfl, h0, r0⟩ := trodAll_cons hA
  obtain ⟨v1, vs1, d1, ds1, p1, q1, rfl, rfl, rfl, h1, r1⟩ := trodAll_cons r0
  obtain ⟨v2, vs2, d2, ds2, p2, q2, rfl, rfl, rfl, h2, r2⟩ := trodAll_cons r1
  obtain ⟨v3, vs3, d3, ds3, p3, q3, rfl, rfl, rfl, h3, r3⟩ := trodAll_cons r2
  obtain ⟨rfl, rfl, rfl⟩ := trodAll_nil r3
  obtain rfl : args = #[v0, v1, v2, v3] := by cases args; simp_all
  obtain ⟨rfl, rfl⟩ := trodVars_none hV
  have k0 := h0
  have lt0 : ∀ x ∈ p0, x.block < W.heap.size := by obtain ⟨m, hm⟩ := k0; exact DataW.trod_lt m _ _ _ hm
  obtain ⟨a0, rfl, rfl, rfl, w0⟩ := open_int Tryd.underlying5 (hval 0 5 v0 rfl rfl) h0
  have b0 : 0 ≤ a0 ∧ a0 ≤ 255 := by simpa [Lit.wf, IntKind.min, IntKind.max, IntKind.signed, IntKind.bits] using w0
  have k1 := h1
  have lt1 : ∀ x ∈ p1, x.block < W.heap.size := by obtain ⟨m, hm⟩ := k1; exact DataW.trod_lt m _ _ _ hm
  obtain ⟨a1, rfl, rfl, rfl, w1⟩ := open_int Tryd.underlying5 (hval 1 5 v1 rfl rfl) h1
  have b1 : 0 ≤ a1 ∧ a1 ≤ 255 := by simpa [Lit.wf, IntKind.min, IntKind.max, IntKind.signed, IntKind.bits] using w1
  have k2 := h2
  have lt2 : ∀ x ∈ p2, x.block < W.heap.size := by obtain ⟨m, hm⟩ := k2; exact DataW.trod_lt m _ _ _ hm
  obtain ⟨a2, rfl, rfl, rfl, w2⟩ := open_int Tryd.underlying5 (hval 2 5 v2 rfl rfl) h2
  have b2 : 0 ≤ a2 ∧ a2 ≤ 255 := by simpa [Lit.wf, IntKind.min, IntKind.max, IntKind.signed, IntKind.bits] using w2
  have k3 := h3
  have lt3 : ∀ x ∈ p3, x.block < W.heap.size := by obtain ⟨m, hm⟩ := k3; exact DataW.trod_lt m _ _ _ hm
  obtain ⟨a3, rfl, rfl, rfl, w3⟩ := open_int Tryd.underlying2 (hval 3 2 v3 rfl rfl) h3
  have b3 : -9223372036854775808 ≤ a3 ∧ a3 ≤ 9223372036854775807 := by simpa [Lit.wf, IntKind.min, IntKind.max, IntKind.signed, IntKind.bits] using w3
  clear hA0 hval0
  refine (fnFullShort_walk a0 a1 a2 a3 W (tabs hL) b0 b1 b2 b3).mono fun e W' ⟨he, bel⟩ => ?_
  subst he
  exact ⟨_, rfl, _, _, _, [], _, [], hW', trodAll_mk1 (shut_bool Tryd.underlying4 _), (trodAll_cons_mk (shut_int Tryd.underlying5 w0) (trodAll_cons_mk (shut_int Tryd.underlying5 w1) (trodAll_cons_mk (shut_int Tryd.underlying5 w2) (trodAll_cons_mk (shut_int Tryd.underlying2 w3) trodAll_mk0)))), rfl, bel.out.frame _, fun h => by cases h⟩
theorem row : Rows.FnFullShortSaid :=
  OpenClaim.holds_of_cond 6 Tryd.f6 rfl rfl rfl rfl rfl rfl rfl ⟨rfl, rfl, rfl, rfl, rfl⟩ rfl rfl rfl rfl rfl (by kernel_rfl) Tryd.func6 (by kernel_rfl)
    (of_decide_eq_true (by kernel_rfl)) (by unfold Func.isWrapper; first | (rw [if_pos (by decide +kernel)]; kernel_rfl) | (rw [if_neg (by decide +kernel)]; exact ⟨rfl, rfl⟩))
    (fun os started H enc _ F => by rw [OpenClaim.pre_eq_preRow]; exact lifted os started H enc F)
theorem plain (f : FuncId) (fn : Func) (hf : Tryd.pinned.checked.prog.funcNamed Rows.fnFullShortRow.func = some f) (hfn : Tryd.pinned.checked.prog.funcs[f]? = some fn) :
    false = Tryd.pinned.checked.prog.looks [] ∧ ∀ (j : Nat) t, fn.params[j]? = some t → Tryd.pinned.checked.prog.wantsStandIn t = false := by
  obtain rfl : f = 6 := Option.some.inj ((show Tryd.prog.funcNamed Rows.fnFullShortRow.func = some 6 by kernel_rfl).symm.trans hf) |>.symm
  obtain rfl : fn = Tryd.f6 := (Option.some.inj (Tryd.func6.symm.trans hfn)).symm
  refine ⟨by kernel_rfl, fun j t ht => ?_⟩
  rw [Tryd.params6] at ht
  have hm := Array.mem_of_getElem? ht
  have hor : t = 2 ∨ t = 5 := by simp at hm; first | exact hm.symm | (rcases hm with h | h <;> simp [h]) | (rcases hm with h | h | h <;> simp [h]) | (rcases hm with h | h | h | h <;> simp [h])
  rcases hor with rfl | rfl
  · exact (show Tryd.prog.wantsStandIn 2 = false by kernel_rfl)
  · exact (show Tryd.prog.wantsStandIn 5 = false by kernel_rfl)
theorem said : Rows.FnFullShortCardSaid :=
  Claim7.holds_tied_plain_at .later [] _ _ _ _ row (fun _ h => by cases h) (by kernel_rfl) (fun _ h => by cases h) fnFullShort_row_tie rfl ⟨rfl, rfl⟩ (by kernel_rfl) rfl plain (by kernel_rfl)
end fnFullShort
end Go.Proofs.YtgjdlcnmfpbbhaaDoor
