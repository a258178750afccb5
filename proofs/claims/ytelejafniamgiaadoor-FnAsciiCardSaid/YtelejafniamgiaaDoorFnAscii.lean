/- FnAscii: bytes below RuneSelf are runes by themselves. The tables are those that the program lays. -/
import Derived.Test.YtelejafniamgiaaDoorFrame
import Derived.Test.YtelejafniamgiaaDoorDecodeU
import Derived.Test.YtelejafniamgiaaDoorValidU
import Derived.Test.YtelejafniamgiaaDoorCount
import Derived.Test.YtelejafniamgiaaDoorRune
import Derived.Test.YtelejafniamgiaaDoorStart
import Derived.Test.YtelejafniamgiaaDoorConst
import Derived.Test.YtelejafniamgiaaDoorToValid
import Derived.Test.YtelejafniamgiaaDoorPlainF
import Derived.Deep.RegionHeld3
namespace Go.Proofs.YtelejafniamgiaaDoor
open Go.RowKit Go.Lib
set_option linter.unusedVariables false
theorem asciis (l : List UInt8) (h : ∀ b ∈ l, b.toNat < 128) : validB l = true ∧ cnt l = l.length := by
  induction l with
  | nil => exact ⟨rfl, rfl⟩
  | cons b l ih =>
    obtain ⟨i1, i2⟩ := ih (fun x hx => h x (by simp [hx]))
    have hb := h b (by simp)
    have hd := dec_ascii b l hb
    have hnb : ¬ bad (b :: l) := by unfold bad; rw [hd]; simp only; omega
    rw [validB_step _ (by simp), cnt_step _ (by simp), hd, decide_eq_false hnb]
    simp only [List.drop_succ_cons, List.drop_zero, List.length_cons]
    rw [i1, i2]
    exact ⟨rfl, rfl⟩
theorem asc_snoc {l : List UInt8} {k : Nat} (hk : k < l.length) (h : ∀ b ∈ l.take k, b.toNat < 128) (hg : (l.getD k 0).toNat < 128) : ∀ b ∈ l.take (k + 1), b.toNat < 128 := by
  intro z hz
  rw [List.take_succ_eq_append_getElem hk, List.mem_append] at hz
  rcases hz with hz | hz
  · exact h z hz
  · simp only [List.mem_singleton] at hz
    subst hz
    simpa [List.getD, List.getElem?_eq_getElem hk] using hg
set_option maxRecDepth 100000 in
set_option maxHeartbeats 2000000 in
theorem fnAscii_walk (A0 : Option Addr) (n0 c0 : Nat) (l0 : List UInt8) (w : World) (hT : Tabs w) (e0 : By w A0 n0 l0) (g0 : n0 ≤ c0) (m0 : c0 ≤ 140737488351232) :
    Calls Tryd.prog 5 #[.slice A0 n0 c0] w fun e w' => e = .returned (.bool true) ∧ Nx w w' := by
  have LX := Lib.hid e0.len
  go_enter Tryd.func5, Tryd.ntmps5
  go_wp2_with fail
  refine (constants_any _).mono ?_
  rintro e w' ⟨rfl, rfl⟩
  go_wp2_with fail
  go_loop [7] (fun i => ∃ k : Nat, k ≤ n0 ∧ i = .int .i64 k ∧ Hid (∀ b ∈ l0.take k, b.toNat < 128)) (fun i => n0 - (RowKit.intOf i).toNat)
  case atStart => exact ⟨0, Nat.zero_le _, rfl, by simp [Hid]⟩
  case round =>
    obtain ⟨k, hk, rfl, hgs⟩ := hrel
    by_cases hlt : k < n0
    · obtain ⟨b, off, u, rfl, hb, q1, u0, u1, hu⟩ := e0.at_ hlt
      by_cases hc : 128 ≤ u
      · go_wp2_with fail
        go_ret
        exact ⟨rfl, Nx.refl _⟩
      · have zc : decide (128 ≤ u) = false := by simp; omega
        have hs : Hid (∀ b ∈ l0.take (k + 1), b.toNat < 128) := asc_snoc (by rw [LX.out]; exact hlt) hgs.out (by have := hu.out; omega)
        clear hc
        go_wp2_with fail
        go_round
        case rel => exact ⟨k + 1, by omega, by go_num, hs⟩
        case measure => simp [RowKit.intOf]; omega
    · have hall : Hid (∀ b ∈ l0, b.toNat < 128) := by have := hgs.out; rwa [List.take_of_length_le (by rw [LX.out]; omega)] at this
      clear hgs
      obtain rfl : k = n0 := by omega
      go_wp2_with fail
      go_loopw [8] (fun i wr => ∃ j : Nat, j ≤ k ∧ i = .int .i64 j ∧ Nx w wr) (fun i _ => k - (RowKit.intOf i).toNat)
      case atStart => exact ⟨0, Nat.zero_le _, rfl, Nx.refl _⟩
      case round =>
        obtain ⟨j, hj, rfl, y⟩ := hrel
        by_cases hlt : j < k
        · obtain ⟨b, off, rfl, hb, hcell⟩ := (e0.next y).open_ (by omega)
          obtain ⟨B, hB⟩ : ∃ B, Hid (l0.getD j 0 = B) := ⟨_, rfl⟩
          have q1 := hcell j hlt
          rw [hB.out] at q1
          have hjl : j < l0.length := by rw [LX.out]; exact hlt
          have hBa : B.toNat < 128 := by
            rw [← hB.out]
            refine hall.out _ ?_
            simp [List.getD, List.getElem?_eq_getElem hjl]
          have hd : Hid (dec (l0.drop j) = (B.toNat, 1)) := by
            show _ = _
            have h0 : l0.drop j = l0.getD j 0 :: l0.drop (j + 1) := by
              rw [List.drop_eq_getElem_cons hjl]
              simp [List.getD, List.getElem?_eq_getElem hjl]
            rw [h0, hB.out, dec_of (by simp), dec_ascii _ _ hBa]
          have cl := Lib.hid fun w => len_any (B.toNat : Int) w
          rw [lenZ_one (by omega) (by omega)] at cl
          have hst : startB (B.toNat : Int) = true := by rw [start_byte]; exact decide_eq_true (by omega)
          have cs := Lib.hid fun w => start_any (B.toNat : Int) w (by omega) (by omega)
          rw [hst] at cs
          have sc := (e0.next y).from_ (i := j) (cap := c0) (by omega) g0
          have hcut := fun W => run_cut (P := Tryd.prog) 23 5 Tryd.underlying23 (fun _ => by kernel_rfl) (some ⟨b, off, none⟩) k c0 .i64 (j : Int) j rfl (by omega) W
          have Q1 : Hid (∀ w3, Nx wr w3 → w3.cell? ⟨b, off + j, none⟩ = some (.int .u8 (B.toNat : Int))) := fun w3 h => (h.cell (p := ⟨b, off + j, none⟩) hb).trans q1
          have r1 : ((B.toNat : Int) != (B.toNat : Int)) = false := by simp
          have i1 : (j : Int) < (k : Int) := by omega
          clear hcell q1 hst hjl
          go_wp2_with fail
          refine (decode_any _ _ _ (l0.drop j) _ (hT.next y) sc).mono ?_
          rw [hd.out]
          rintro e w3 ⟨rfl, x3⟩
          have q1 := Q1.out w3 x3
          go_wp2_with (first | (go_at_call 18; refine (cs.out _).mono ?_; rintro e w' ⟨rfl, rfl⟩) | (go_at_call 11; refine (cl.out _).mono ?_; rintro e w' ⟨rfl, rfl⟩))
          go_roundw
          case rel => exact ⟨j + 1, by omega, by go_num, y.trans x3⟩
          case measure => simp [RowKit.intOf]; omega
        · obtain ⟨v1, v2⟩ := asciis l0 hall.out
          rw [LX.out] at v2
          obtain ⟨X, hX⟩ : ∃ X, Hid (strOf l0 = X) := ⟨_, rfl⟩
          have hXd : Hid (X.data.toList = l0) := by show _ = _; rw [← hX.out, strOf_data]
          have hXs : X.size = k := by rw [← hX.out, strOf_size, LX.out]
          have ca := Lib.hid fun W (h : Nx w W) => nx_mono h (valid_any A0 k c0 l0 W (hT.next h) (e0.next h) g0 (by omega))
          rw [v1] at ca
          have cb := Lib.hid fun W (h : Nx w W) => nx_mono h (count_any A0 k c0 l0 W (e0.next h) g0 (by omega))
          rw [v2] at cb
          have cc := Lib.hid fun W (h : Nx w W) => nx_mono h (toValid_any X ⟨#[63]⟩ W (hT.next h) (by show X.size + 1 ≤ _; omega) (by rw [hXd.out, toV_valid _ v1, LX.out]; omega))
          rw [hXd.out, toV_valid _ v1, hX.out] at cc
          have tb : ∀ W, Nx w W → (convert 23 9 (.slice A0 k c0)).run Tryd.prog W = .ok (.string X) W := fun W h => by
            rw [← hX.out]
            exact run_bytes_str (P := Tryd.prog) 23 9 5 Tryd.underlying23 Tryd.underlying5 Tryd.underlying9 W A0 k c0 _ (e0.next h)
          have zk : ((k : Int) == (k : Int)) = true := by simp
          have hxx : (X.toList == X.toList) = true := by simp
          clear v1 v2 hXs
          go_wp2_with fail
          go_region_held3 (fun w' => Nx w w') (first | exact y.drew | assumption) (first | (go_at_call 12; refine (ca.out _ (by first | exact y.drew | assumption)).mono ?_; rintro e w5 ⟨rfl, x5⟩) | (go_at_call 14; refine (cb.out _ (by first | exact y.drew | assumption)).mono ?_; rintro e w6 ⟨rfl, x6⟩) | (go_at_call 19; refine (cc.out _ (by first | exact y.drew | assumption)).mono ?_; rintro e w7 ⟨rfl, x7⟩))
          all_goals go_wp2_with fail
          all_goals go_ret
          all_goals exact ⟨rfl, by assumption⟩
namespace fnAscii
open Go.ChangeShapes Go.WideShapes Go.ChangeAt Go.RowKit
open Go.ChangeMaps (open_string shut_string)
set_option maxRecDepth 100000 in
set_option linter.unusedVariables false in
theorem laid_met (os : Os) : laidMet Tryd.prog Rows.fnAsciiRow.laid ((laidWorld os).forCall (fun _ _ => 0) ⟨#[], #[.slice none 0 0], []⟩).memory :=
  laidMet_of_run' 8 (by kernel_rfl) (by kernel_rfl)
theorem reads (os : Os) {H : Type} (enc : TypeId × Value → H) : ∃ places, DataW.whole enc Tryd.prog ((laidWorld os).forCall (fun _ _ => 0) ⟨#[], #[.slice none 0 0], []⟩).memory Tryd.f5.params.toList Rows.fnAsciiSpec.vars false (#[.slice none 0 0] : Array Value).toList 8 = some ([.nil], [], places) :=
  ⟨[], by kernel_rfl⟩
set_option maxRecDepth 100000 in
set_option linter.unusedVariables false in
theorem lifted (os : Os) (started : os.Started) (H : Type) (enc : TypeId × Value → H) (F : Stop.Interp) :
    ReturnsInHanded {} Tryd.checked os 5 .any ((OpenSpec.ofChange Rows.fnAsciiSpec).preRow enc Tryd.prog Tryd.f5 Rows.fnAsciiRow.domain false Rows.fnAsciiRow.laid) (((OpenSpec.ofChange Rows.fnAsciiSpec).at F).post enc Tryd.prog Tryd.f5 false true false false) := by
  obtain ⟨places, hx⟩ := reads os enc
  refine returnsInHanded_of_row (C := Tryd.checked) (s := (OpenSpec.ofChange Rows.fnAsciiSpec)) own started (by kernel_rfl) Tryd.func5
    (witness_row_at (enc := enc) (C := Tryd.checked) false (laidWorld os) #[.slice none 0 0] rfl (by kernel_rfl) (by kernel_rfl) (by kernel_rfl)
      (OpenSpec.preRow_of_cond 8 hx (by kernel_rfl) (fun k hk => by cases hk) (by kernel_rfl) (laid_met os))) ?_
  intro W base args ds gs before hval0 hW _ hkk hsz0 hL _ _
  have hsz : (DataW.weightsEach Tryd.prog (Tryd.f5.params.toList ++ (OpenSpec.ofChange Rows.fnAsciiSpec).bare.plain.varTypes Tryd.prog) (ds ++ gs)).all (· ≤ reachBytes) = true := hsz0
  rw [Tryd.params5] at hsz
  have hval : ∀ (j : Nat) t v, Tryd.f5.params[j]? = some t → args[j]? = some v → Value.okWide Tryd.prog W .any base t v := hval0
  have hW' := hW
  obtain ⟨p, q, hA0, hV, rfl, hfz, hnd⟩ := hW
  have hA : DataW.TrodAll enc Tryd.prog W 0 (fun _ => true) true Tryd.f5.params.toList args.toList ds p := hA0
  rw [Tryd.params5] at hA hval
  obtain ⟨v0, vs0, d0, ds0, p0, q0, hargs, rfl, rfl, h0, r0⟩ := trodAll_cons hA
  obtain ⟨rfl, rfl, rfl⟩ := trodAll_nil r0
  obtain rfl : args = #[v0] := by cases args; simp_all
  obtain ⟨rfl, rfl⟩ := trodVars_none hV
  have k0 := h0
  have lt0 : ∀ x ∈ p0, x.block < W.heap.size := by obtain ⟨m, hm⟩ := k0; exact DataW.trod_lt m _ _ _ hm
  obtain ⟨A0, n0, c0, l0, rfl, e0, g0, m0, u0⟩ := open_by Tryd.underlying23 Tryd.underlying5 (by kernel_rfl) (hval 0 23 v0 rfl rfl) h0
  have z0 : c0 ≤ 140737488351232 := by have := held_size (j := 0) (t := 23) (b := 1) hsz (by kernel_rfl) (by rfl) rfl Tryd.underlying23 u0; omega
  clear hA0 hval0
  refine (fnAscii_walk A0 n0 c0 l0 W (tabs hL) e0 g0 z0).mono fun e W' ⟨he, bel⟩ => ?_
  subst he
  exact ⟨_, rfl, _, _, _, [], _, [], hW', trodAll_mk1 (shut_bool Tryd.underlying4 _), (trodAll_cons_mk (Below.trod laidOut (by kernel_rfl) (of_decide_eq_true (by kernel_rfl)) k0 bel.out lt0) trodAll_mk0), rfl, bel.out.frame _, fun h => by cases h⟩
theorem row : Rows.FnAsciiSaid :=
  OpenClaim.holds_of_cond 5 Tryd.f5 rfl rfl rfl rfl rfl rfl rfl ⟨rfl, rfl, rfl, rfl, rfl⟩ rfl rfl rfl rfl rfl (by kernel_rfl) Tryd.func5 (by kernel_rfl)
    (of_decide_eq_true (by kernel_rfl)) (by unfold Func.isWrapper; first | (rw [if_pos (by decide +kernel)]; kernel_rfl) | (rw [if_neg (by decide +kernel)]; exact ⟨rfl, rfl⟩))
    (fun os started H enc _ F => by rw [OpenClaim.pre_eq_preRow]; exact lifted os started H enc F)
theorem plain (f : FuncId) (fn : Func) (hf : Tryd.pinned.checked.prog.funcNamed Rows.fnAsciiRow.func = some f) (hfn : Tryd.pinned.checked.prog.funcs[f]? = some fn) :
    false = Tryd.pinned.checked.prog.looks [] ∧ ∀ (j : Nat) t, fn.params[j]? = some t → Tryd.pinned.checked.prog.wantsStandIn t = false := by
  obtain rfl : f = 5 := Option.some.inj ((show Tryd.prog.funcNamed Rows.fnAsciiRow.func = some 5 by kernel_rfl).symm.trans hf) |>.symm
  obtain rfl : fn = Tryd.f5 := (Option.some.inj (Tryd.func5.symm.trans hfn)).symm
  refine ⟨by kernel_rfl, fun j t ht => ?_⟩
  rw [Tryd.params5] at ht
  have hm := Array.mem_of_getElem? ht
  have hor : t = 23 := by simp at hm; omega
  subst hor
  exact (show Tryd.prog.wantsStandIn 23 = false by kernel_rfl)
theorem said : Rows.FnAsciiCardSaid :=
  Claim7.holds_tied_plain_at .later [] _ _ _ _ row (fun _ h => by cases h) (by kernel_rfl) (fun _ h => by cases h) fnAscii_row_tie rfl ⟨rfl, rfl⟩ (by kernel_rfl) rfl plain (by kernel_rfl)
end fnAscii
end Go.Proofs.YtelejafniamgiaaDoor
