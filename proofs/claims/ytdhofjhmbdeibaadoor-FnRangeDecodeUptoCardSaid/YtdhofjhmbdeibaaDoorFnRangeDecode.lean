/- FnRangeDecode: a range clause goes over the same runes, at the same places, as DecodeRuneInString when it is called again behind each of them. The condition: what is read is of bulk at most 1048576; the tables are those that the program lays. -/
import Derived.Test.YtdhofjhmbdeibaaDoorFrame
import Derived.Test.YtdhofjhmbdeibaaDoorDecodeU
import Derived.Test.YtdhofjhmbdeibaaDoorRange
import Derived.Test.YtdhofjhmbdeibaaDoorPlainE
import Derived.Lib.ValidAsc
namespace Go.Proofs.YtdhofjhmbdeibaaDoor
open Go.RowKit Go.Lib
set_option linter.unusedVariables false
theorem cut_string (s : ByteArray) (i : Nat) (h : i ≤ s.size) (W : World) : (Instr.slice 9 (.string s) (some (.int .i64 (i : Int))) none none).run Tryd.prog W = .ok (.string (s.extract i s.size)) W := by
  rw [run_slice_string_l W 9 s Tryd.underlying9 .i64 (i : Int) (by omega) (by omega)]
  simp
set_option maxRecDepth 100000 in
set_option maxHeartbeats 1000000 in
theorem fnRangeDecode_walk (s0 : ByteArray) (w : World) (hT : Tabs w) (m0 : s0.size ≤ 1048576) :
    Calls Tryd.prog 3 #[.string s0] w fun e w' => e = .returned (.bool true) ∧ Nx w w' := by
  have LX := Lib.hid (size_list s0)
  obtain ⟨C, hC⟩ : ∃ K, Hid (cnt s0.data.toList = K) := ⟨_, rfl⟩
  have hCb : C ≤ 1048576 := by have := cnt_le s0.data.toList; rw [size_list, hC.out] at this; omega
  have hr : Hid ((runesL s0.data.toList).length = C) := by show _ = _; rw [← hC.out]; simp [runesL, cnt]
  have hp : Hid ((placesL s0.data.toList).length = C) := by show _ = _; rw [← hC.out]; unfold placesL; rw [placesGo_length]; rfl
  go_enter Tryd.func3, Tryd.ntmps3
  go_wp2_with fail
  refine (range_any s0 _ (by omega)).mono ?_
  rintro e w1 ⟨A1, n1, c1, A2, n2, c2, rfl, o1, o2, _, x1⟩
  have e1 : n1 = C := by rw [o1.len, hp.out]
  have e2 : n2 = C := by rw [o2.len, hr.out]
  subst e2
  subst e1
  have s1 := o1.sl
  have s2 := o2.sl
  clear o1 o2
  go_wp2_with fail
  go_loopw [5, 6] (fun a k wr => ∃ (i j : Nat), i ≤ s0.size ∧ j ≤ n1 ∧ a = .int .i64 i ∧ k = .int .i64 j ∧ Hid (∃ ps, Come s0.data.toList i ps ∧ ps.length = j) ∧ Nx w1 wr) (fun a _ _ => s0.size - (RowKit.intOf a).toNat)
  case atStart => exact ⟨0, 0, Nat.zero_le _, Nat.zero_le _, rfl, rfl, ⟨[], Come.start _, rfl⟩, Nx.refl _⟩
  case round =>
    obtain ⟨i, j, hi, hj, rfl, rfl, hco, hnx⟩ := hrel
    obtain ⟨ps, hcome, hpl⟩ := hco.out
    by_cases hlt : i < s0.size
    · obtain ⟨q1, q2, q3, q4⟩ := hcome.at_ (by rw [LX.out]; exact hlt)
      obtain ⟨hcome', hd1, hd2⟩ := hcome.step (by rw [LX.out]; exact hlt)
      rw [LX.out] at hd2
      rw [hpl] at q1 q2 q3
      rw [hC.out] at q1
      obtain ⟨R, hR⟩ : ∃ K, Hid ((dec (s0.data.toList.drop i)).1 = K) := ⟨_, rfl⟩
      obtain ⟨K, hK⟩ : ∃ K, Hid ((dec (s0.data.toList.drop i)).2 = K) := ⟨_, rfl⟩
      rw [hR.out] at q3
      rw [hK.out] at hcome' hd1 hd2
      have HC2 : Hid (∃ ps, Come s0.data.toList (i + K) ps ∧ ps.length = j + 1) := ⟨_, hcome', by simp [hpl]⟩
      obtain ⟨b1, f1, u1, rfl, hb1, d1, hu1⟩ := (s1.next hnx).at_ (k := j) q1
      obtain ⟨b2, f2, u2, rfl, hb2, d2, hu2⟩ := (s2.next hnx).at_ (k := j) q1
      have E1 : u1 = (i : Int) := by rw [← hu1.out, q2]
      have E2 : u2 = (R : Int) := by rw [← hu2.out, q3]
      subst E1
      subst E2
      obtain ⟨X, hX⟩ : ∃ X, Hid (s0.extract i s0.size = X) := ⟨_, rfl⟩
      have hXd : Hid (X.data.toList = s0.data.toList.drop i) := by show _ = _; rw [← hX.out, Lib.ext_list]
      have hsl := fun W => cut_string s0 i hi W
      rw [hX.out] at hsl
      have cd := Lib.hid fun W (h : Tabs W) => decodeS_any X W h
      rw [hXd.out, hR.out, hK.out] at cd
      have r1 : ((i : Int) != (i : Int)) = false := by simp
      have r2 : ((R : Int) != (R : Int)) = false := by simp
      have r3 : ((n1 : Int) != (n1 : Int)) = false := by simp
      have bnd : ∀ w2, Nx wr w2 → w2.cell? ⟨b1, f1 + j, none⟩ = some (.int .i64 (i : Int)) ∧ w2.cell? ⟨b2, f2 + j, none⟩ = some (.int .i32 (R : Int)) := fun w2 h => ⟨(h.cell (p := ⟨b1, f1 + j, none⟩) hb1).trans d1, (h.cell (p := ⟨b2, f2 + j, none⟩) hb2).trans d2⟩
      have BND := Lib.hid bnd
      clear hcome hcome' hco q2 q3 q4 hpl hu1 hu2 d1 d2 bnd
      go_wp2_with fail
      refine (cd.out _ (hT.next (x1.trans hnx))).mono ?_
      rintro e w2 ⟨rfl, x2⟩
      obtain ⟨d1, d2⟩ := BND.out w2 x2
      clear hsl
      go_wp2_with fail
      go_roundw
      case rel => exact ⟨i + K, j + 1, by omega, by omega, by go_num, by go_num, HC2, hnx.trans x2⟩
      case measure => simp [RowKit.intOf]; omega
    · have hfin : j = n1 := by rw [← hpl, hcome.len (by rw [LX.out]; omega), hC.out]
      subst hfin
      have r3 : ((j : Int) == (j : Int)) = true := by simp
      clear hcome hco
      go_wp2_with fail
      go_ret
      exact ⟨rfl, x1.trans hnx⟩
namespace fnRangeDecode
open Go.ChangeShapes Go.WideShapes Go.ChangeAt Go.RowKit
open Go.ChangeMaps (open_string shut_string)
set_option maxRecDepth 100000 in
set_option linter.unusedVariables false in
theorem laid_met (os : Os) : laidMet Tryd.prog Rows.fnRangeDecodeUptoRow.laid ((laidWorld os).forCall (fun _ _ => 0) ⟨#[], #[.string ⟨#[]⟩], []⟩).memory :=
  laidMet_of_run' 8 (by kernel_rfl) (by kernel_rfl)
theorem reads (os : Os) {H : Type} (enc : TypeId × Value → H) : ∃ places, DataW.whole enc Tryd.prog ((laidWorld os).forCall (fun _ _ => 0) ⟨#[], #[.string ⟨#[]⟩], []⟩).memory Tryd.f3.params.toList Rows.fnRangeDecodeSpec.vars false (#[.string ⟨#[]⟩] : Array Value).toList 8 = some ([.lit (.string [])], [], places) :=
  ⟨[], by kernel_rfl⟩
set_option maxRecDepth 100000 in
set_option linter.unusedVariables false in
theorem lifted (os : Os) (started : os.Started) (H : Type) (enc : TypeId × Value → H) (F : Stop.Interp) :
    ReturnsInHanded {} Tryd.checked os 3 .any ((Rows.OpenSpec.upto Rows.fnRangeDecodeSpec).preRow enc Tryd.prog Tryd.f3 Rows.fnRangeDecodeUptoRow.domain false Rows.fnRangeDecodeUptoRow.laid) (((Rows.OpenSpec.upto Rows.fnRangeDecodeSpec).at F).post enc Tryd.prog Tryd.f3 false true false false) := by
  obtain ⟨places, hx⟩ := reads os enc
  refine returnsInHanded_of_row (C := Tryd.checked) (s := (Rows.OpenSpec.upto Rows.fnRangeDecodeSpec)) own started (by kernel_rfl) Tryd.func3
    (witness_row_at (enc := enc) (C := Tryd.checked) false (laidWorld os) #[.string ⟨#[]⟩] rfl (by kernel_rfl) (by kernel_rfl) (by kernel_rfl)
      (OpenSpec.preRow_of_cond 8 hx (by kernel_rfl) (fun k hk => by cases hk; kernel_rfl) (by kernel_rfl) (laid_met os))) ?_
  intro W base args ds gs before hval0 hW _ hkk hsz0 hL _ _
  have hk := hkk _ rfl
  have hval : ∀ (j : Nat) t v, Tryd.f3.params[j]? = some t → args[j]? = some v → Value.okWide Tryd.prog W .any base t v := hval0
  have hW' := hW
  obtain ⟨p, q, hA0, hV, rfl, hfz, hnd⟩ := hW
  have hA : DataW.TrodAll enc Tryd.prog W 0 (fun _ => true) true Tryd.f3.params.toList args.toList ds p := hA0
  rw [Tryd.params3] at hA hval
  obtain ⟨v0, vs0, d0, ds0, p0, q0, hargs, rfl, rfl, h0, r0⟩ := trodAll_cons hA
  obtain ⟨rfl, rfl, rfl⟩ := trodAll_nil r0
  obtain rfl : args = #[v0] := by cases args; simp_all
  obtain ⟨rfl, rfl⟩ := trodVars_none hV
  have k0 := h0
  have lt0 : ∀ x ∈ p0, x.block < W.heap.size := by obtain ⟨m, hm⟩ := k0; exact DataW.trod_lt m _ _ _ hm
  obtain ⟨s0, rfl, rfl, rfl, w0⟩ := open_string Tryd.underlying9 (hval 0 9 v0 rfl rfl) h0
  have z0 : s0.size ≤ 1048576 := by have := bulk_str (H := H) s0; have hb := bulk_bound hk; simp only [Rows.uptoBulkAll, List.append_nil] at hb; omega
  clear hA0 hval0
  refine (fnRangeDecode_walk s0 W (tabs hL) z0).mono fun e W' ⟨he, bel⟩ => ?_
  subst he
  exact ⟨_, rfl, _, _, _, [], _, [], hW', trodAll_mk1 (shut_bool Tryd.underlying4 _), (trodAll_cons_mk (shut_string Tryd.underlying9 w0) trodAll_mk0), rfl, bel.out.frame _, fun h => by cases h⟩
theorem row : Rows.FnRangeDecodeUptoSaid :=
  OpenClaim.holds_of_cond 3 Tryd.f3 rfl rfl rfl rfl rfl rfl rfl ⟨rfl, rfl, rfl, rfl, rfl⟩ rfl rfl rfl rfl rfl (by kernel_rfl) Tryd.func3 (by kernel_rfl)
    (of_decide_eq_true (by kernel_rfl)) (by unfold Func.isWrapper; first | (rw [if_pos (by decide +kernel)]; kernel_rfl) | (rw [if_neg (by decide +kernel)]; exact ⟨rfl, rfl⟩))
    (fun os started H enc _ F => by rw [OpenClaim.pre_eq_preRow]; exact lifted os started H enc F)
theorem plain (f : FuncId) (fn : Func) (hf : Tryd.pinned.checked.prog.funcNamed Rows.fnRangeDecodeUptoRow.func = some f) (hfn : Tryd.pinned.checked.prog.funcs[f]? = some fn) :
    false = Tryd.pinned.checked.prog.looks [] ∧ ∀ (j : Nat) t, fn.params[j]? = some t → Tryd.pinned.checked.prog.wantsStandIn t = false := by
  obtain rfl : f = 3 := Option.some.inj ((show Tryd.prog.funcNamed Rows.fnRangeDecodeUptoRow.func = some 3 by kernel_rfl).symm.trans hf) |>.symm
  obtain rfl : fn = Tryd.f3 := (Option.some.inj (Tryd.func3.symm.trans hfn)).symm
  refine ⟨by kernel_rfl, fun j t ht => ?_⟩
  rw [Tryd.params3] at ht
  have hm := Array.mem_of_getElem? ht
  have hor : t = 9 := by simp at hm; omega
  subst hor
  exact (show Tryd.prog.wantsStandIn 9 = false by kernel_rfl)
theorem said : Rows.FnRangeDecodeUptoCardSaid :=
  Claim7.holds_tied_plain_at .later [] _ _ _ _ row (fun _ h => by cases h) (by kernel_rfl) (fun _ h => by cases h) fnRangeDecodeUpto_row_tie rfl ⟨rfl, rfl⟩ (by kernel_rfl) rfl plain (by kernel_rfl)
end fnRangeDecode
end Go.Proofs.YtdhofjhmbdeibaaDoor
