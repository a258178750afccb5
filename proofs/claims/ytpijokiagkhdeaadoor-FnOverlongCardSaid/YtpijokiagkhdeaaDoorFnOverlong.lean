/- FnOverlong: the bits of a rune in a form that is longer than needed are no encoding. The tables are those that the program lays. -/
import Derived.Test.YtpijokiagkhdeaaDoorFrame
import Derived.Test.YtpijokiagkhdeaaDoorDecodeU
import Derived.Test.YtpijokiagkhdeaaDoorValidU
import Derived.Test.YtpijokiagkhdeaaDoorCount
import Derived.Test.YtpijokiagkhdeaaDoorForm
import Derived.Test.YtpijokiagkhdeaaDoorEncoding
import Derived.Test.YtpijokiagkhdeaaDoorGood
import Derived.Test.YtpijokiagkhdeaaDoorJoined
import Derived.Test.YtpijokiagkhdeaaDoorPlainF
namespace Go.Proofs.YtpijokiagkhdeaaDoor
open Go.RowKit Go.Lib
set_option linter.unusedVariables false
theorem long_bad {r : Int} {n : Nat} (hg : goodB r = true) (h1 : (encodeRune r).length < n) (h2 : n ≤ 4) (h3 : r < 65536) (q : List UInt8) :
    decodeL (form r n ++ q) = (65533, 1) ∧ cnt (form r n) = n ∧ validB (form r n) = false ∧ decodeLastL (form r n) = (65533, 1) := by
  have h0 : 0 ≤ r := by rw [goodB_iff] at hg; omega
  have hl := enc_length r
  have hn : n = 2 ∨ n = 3 ∨ n = 4 := by omega
  rcases hn with rfl | rfl | rfl
  · have hr : r ≤ 127 := by
      rcases good_cases hg with c | c | c | c
      · omega
      · rw [enc_two c.1 c.2] at h1; simp at h1
      · rw [enc_three c] at h1; simp at h1
      · omega
    obtain ⟨a, b, c⟩ := two_alone h0 hr
    exact ⟨two_bad h0 hr q, a, b, c⟩
  · have hr : r ≤ 2047 := by
      rcases good_cases hg with c | c | c | c
      · omega
      · omega
      · rw [enc_three c] at h1; simp at h1
      · omega
    obtain ⟨a, b, c⟩ := three_alone h0 (Or.inl hr)
    exact ⟨three_bad h0 (Or.inl hr) q, a, b, c⟩
  · obtain ⟨a, b, c⟩ := four_alone h0 (Or.inl (by omega))
    exact ⟨four_bad h0 (Or.inl (by omega)) q, a, b, c⟩
set_option maxRecDepth 100000 in
set_option maxHeartbeats 2000000 in
theorem fnOverlong_walk (a0 : Int) (A1 : Option Addr) (n1 c1 : Nat) (l1 : List UInt8) (w : World) (hT : Tabs w) (b0 : -2147483648 ≤ a0 ∧ a0 ≤ 2147483647) (e1 : By w A1 n1 l1) (g1 : n1 ≤ c1) (m1 : c1 ≤ 140737488351232) :
    Calls Tryd.prog 4 #[.int .i32 a0, .slice A1 n1 c1] w fun e w' => e = .returned (.bool true) ∧ Nx w w' := by
  cases hg : goodB a0 with
  | false =>
    go_enter Tryd.func4, Tryd.ntmps4
    go_wp2_with (go_at_call 20; refine (good_any _ _).mono ?_; rintro e w' ⟨rfl, rfl⟩)
    go_ret
    exact ⟨rfl, Nx.refl _⟩
  | true =>
    by_cases hbig : 65536 ≤ a0
    · go_enter Tryd.func4, Tryd.ntmps4
      go_wp2_with (go_at_call 20; refine (good_any _ _).mono ?_; rintro e w' ⟨rfl, rfl⟩)
      go_ret
      exact ⟨rfl, Nx.refl _⟩
    · have zbig : decide (65536 ≤ a0) = false := by simp; omega
      have h0 : 0 ≤ a0 := by have := hg; rw [goodB_iff] at this; omega
      have hlt : a0 < 65536 := by omega
      have HG := Lib.hid hg
      obtain ⟨K, hK⟩ : ∃ K, Hid ((encodeRune a0).length = K) := ⟨_, rfl⟩
      have hl := enc_length a0
      rw [hK.out] at hl
      obtain ⟨k1, k4⟩ := hl
      have ce := Lib.hid fun w => encoding_any a0 w hg
      clear hbig b0
      go_enter Tryd.func4, Tryd.ntmps4
      go_wp2_with (go_at_call 20; refine (good_any _ _).mono ?_; rintro e w' ⟨rfl, rfl⟩)
      refine (ce.out _).mono ?_
      rintro e w1 ⟨A2, n2, c2, rfl, o2, x1⟩
      have hn2 : n2 = K := by have := o2.len; rw [nums_length, hK.out] at this; exact this
      subst hn2
      clear o2 ce hg
      go_wp2_with fail
      go_loopw [5] (fun i wr => ∃ n : Nat, n2 < n ∧ n ≤ 5 ∧ i = .int .i64 n ∧ Nx w wr) (fun i _ => 5 - (RowKit.intOf i).toNat)
      case atStart => exact ⟨n2 + 1, by omega, by omega, by go_num, x1⟩
      case round =>
        obtain ⟨n, hn, hn5, rfl, y⟩ := hrel
        by_cases hn4 : n ≤ 4
        · have zn : decide ((n : Int) ≤ 4) = true := by simp; omega
          obtain ⟨L, hL⟩ : ∃ L, Hid (form a0 n = L) := ⟨_, rfl⟩
          have hLl : L.length = n := by rw [← hL.out]; exact form_len _ _ (by omega)
          obtain ⟨t1, t2, t3, t4⟩ := long_bad HG.out (n := n) (by rw [hK.out]; exact hn) hn4 hlt l1
          rw [hL.out] at t1 t2 t3 t4
          have hd : Hid (dec (L ++ l1) = (65533, 1)) := by
            show _ = _
            rw [dec_of (by intro h; have := congrArg List.length h; rw [List.length_append, hLl] at this; simp at this <;> omega)]
            exact t1
          have T2 := Lib.hid t2
          have T3 := Lib.hid t3
          have T4 := Lib.hid t4
          have LL := Lib.hid hLl
          have cf := Lib.hid fun w => form_any a0 n w h0 (by omega) (by omega)
          rw [hL.out] at cf
          have zz : ((n : Int) != (n : Int)) = false := by simp
          have HN4 := Lib.hid hn4
          clear t1 t2 t3 t4 hLl hn4
          go_wp2_with fail
          refine (cf.out _).mono ?_
          rintro e w2 ⟨A3, n3, c3, rfl, o3, x2⟩
          have hn3 : n3 = n := by have := o3.len; rw [nums_length, LL.out] at this; exact this
          subst hn3
          have hc3 := o3.cap_.1
          have y2 := y.trans x2
          go_wp2_with fail
          refine (joined_any _ _ _ L _ _ _ l1 _ o3.sl (e1.next y2) (by omega)).mono ?_
          rintro e w3 ⟨A4, n4, c4, rfl, o4, x3⟩
          have y3 := y2.trans x3
          go_wp2_with fail
          refine (decode_any _ _ _ (L ++ l1) _ (hT.next y3) o4.sl).mono ?_
          rw [hd.out]
          rintro e w4 ⟨rfl, x4⟩
          have y4 := y3.trans x4
          have s4 : By w4 A3 n3 L := (o3.sl.next x3).next x4
          go_wp2_with fail
          refine (last_any _ _ _ L _ (hT.next y4) s4 hc3 (by omega)).mono ?_
          rw [T4.out]
          rintro e w5 ⟨rfl, x5⟩
          have y5 := y4.trans x5
          have s5 := s4.next x5
          go_wp2_with fail
          refine (valid_any _ _ _ L _ (hT.next y5) s5 hc3 (by omega)).mono ?_
          rw [T3.out]
          rintro e w6 ⟨rfl, x6⟩
          have y6 := y5.trans x6
          go_wp2_with fail
          refine (count_any _ _ _ L _ (s5.next x6) hc3 (by omega)).mono ?_
          rw [T2.out]
          rintro e w7 ⟨rfl, x7⟩
          go_wp2_with fail
          go_roundw
          case rel => exact ⟨n3 + 1, by omega, by have := HN4.out; omega, by go_num, y6.trans x7⟩
          case measure => have := HN4.out; simp [RowKit.intOf]; omega
        · have zn : decide ((n : Int) ≤ 4) = false := by simp; omega
          go_wp2_with fail
          go_ret
          exact ⟨rfl, y⟩
namespace fnOverlong
open Go.ChangeShapes Go.WideShapes Go.ChangeAt Go.RowKit
open Go.ChangeMaps (open_string shut_string)
set_option maxRecDepth 100000 in
set_option linter.unusedVariables false in
theorem laid_met (os : Os) : laidMet Tryd.prog Rows.fnOverlongRow.laid ((laidWorld os).forCall (fun _ _ => 0) ⟨#[], #[.int .i32 0, .slice none 0 0], []⟩).memory :=
  laidMet_of_run' 8 (by kernel_rfl) (by kernel_rfl)
theorem reads (os : Os) {H : Type} (enc : TypeId × Value → H) : ∃ places, DataW.whole enc Tryd.prog ((laidWorld os).forCall (fun _ _ => 0) ⟨#[], #[.int .i32 0, .slice none 0 0], []⟩).memory Tryd.f4.params.toList Rows.fnOverlongSpec.vars false (#[.int .i32 0, .slice none 0 0] : Array Value).toList 8 = some ([.lit (.int .i32 0), .nil], [], places) :=
  ⟨[], by kernel_rfl⟩
set_option maxRecDepth 100000 in
set_option linter.unusedVariables false in
theorem lifted (os : Os) (started : os.Started) (H : Type) (enc : TypeId × Value → H) (F : Stop.Interp) :
    ReturnsInHanded {} Tryd.checked os 4 .any ((OpenSpec.ofChange Rows.fnOverlongSpec).preRow enc Tryd.prog Tryd.f4 Rows.fnOverlongRow.domain false Rows.fnOverlongRow.laid) (((OpenSpec.ofChange Rows.fnOverlongSpec).at F).post enc Tryd.prog Tryd.f4 false true false false) := by
  obtain ⟨places, hx⟩ := reads os enc
  refine returnsInHanded_of_row (C := Tryd.checked) (s := (OpenSpec.ofChange Rows.fnOverlongSpec)) own started (by kernel_rfl) Tryd.func4
    (witness_row_at (enc := enc) (C := Tryd.checked) false (laidWorld os) #[.int .i32 0, .slice none 0 0] rfl (by kernel_rfl) (by kernel_rfl) (by kernel_rfl)
      (OpenSpec.preRow_of_cond 8 hx (by kernel_rfl) (fun k hk => by cases hk) (by kernel_rfl) (laid_met os))) ?_
  intro W base args ds gs before hval0 hW _ hkk hsz0 hL _ _
  have hsz : (DataW.weightsEach Tryd.prog (Tryd.f4.params.toList ++ (OpenSpec.ofChange Rows.fnOverlongSpec).bare.plain.varTypes Tryd.prog) (ds ++ gs)).all (· ≤ reachBytes) = true := hsz0
  rw [Tryd.params4] at hsz
  have hval : ∀ (j : Nat) t v, Tryd.f4.params[j]? = some t → args[j]? = some v → Value.okWide Tryd.prog W .any base t v := hval0
  have hW' := hW
  obtain ⟨p, q, hA0, hV, rfl, hfz, hnd⟩ := hW
  have hA : DataW.TrodAll enc Tryd.prog W 0 (fun _ => true) true Tryd.f4.params.toList args.toList ds p := hA0
  rw [Tryd.params4] at hA hval
  obtain ⟨v0, vs0, d0, ds0, p0, q0, hargs, rfl, rfl, h0, r0⟩ := trodAll_cons hA
  obtain ⟨v1, vs1, d1, ds1, p1, q1, rfl, rfl, rfl, h1, r1⟩ := trodAll_cons r0
  obtain ⟨rfl, rfl, rfl⟩ := trodAll_nil r1
  obtain rfl : args = #[v0, v1] := by cases args; simp_all
  obtain ⟨rfl, rfl⟩ := trodVars_none hV
  have k0 := h0
  have lt0 : ∀ x ∈ p0, x.block < W.heap.size := by obtain ⟨m, hm⟩ := k0; exact DataW.trod_lt m _ _ _ hm
  obtain ⟨a0, rfl, rfl, rfl, w0⟩ := open_int Tryd.underlying21 (hval 0 21 v0 rfl rfl) h0
  have b0 : -2147483648 ≤ a0 ∧ a0 ≤ 2147483647 := by simpa [Lit.wf, IntKind.min, IntKind.max, IntKind.signed, IntKind.bits] using w0
  have k1 := h1
  have lt1 : ∀ x ∈ p1, x.block < W.heap.size := by obtain ⟨m, hm⟩ := k1; exact DataW.trod_lt m _ _ _ hm
  obtain ⟨A1, n1, c1, l1, rfl, e1, g1, m1, u1⟩ := open_by Tryd.underlying30 Tryd.underlying5 (by kernel_rfl) (hval 1 30 v1 rfl rfl) h1
  have z1 : c1 ≤ 140737488351232 := by have := held_size (j := 1) (t := 30) (b := 1) hsz (by kernel_rfl) (by rfl) rfl Tryd.underlying30 u1; omega
  clear hA0 hval0
  refine (fnOverlong_walk a0 A1 n1 c1 l1 W (tabs hL) b0 e1 g1 z1).mono fun e W' ⟨he, bel⟩ => ?_
  subst he
  exact ⟨_, rfl, _, _, _, [], _, [], hW', trodAll_mk1 (shut_bool Tryd.underlying4 _), (trodAll_cons_mk (shut_int Tryd.underlying21 w0) (trodAll_cons_mk (Below.trod laidOut (by kernel_rfl) (of_decide_eq_true (by kernel_rfl)) k1 bel.out lt1) trodAll_mk0)), rfl, bel.out.frame _, fun h => by cases h⟩
theorem row : Rows.FnOverlongSaid :=
  OpenClaim.holds_of_cond 4 Tryd.f4 rfl rfl rfl rfl rfl rfl rfl ⟨rfl, rfl, rfl, rfl, rfl⟩ rfl rfl rfl rfl rfl (by kernel_rfl) Tryd.func4 (by kernel_rfl)
    (of_decide_eq_true (by kernel_rfl)) (by unfold Func.isWrapper; first | (rw [if_pos (by decide +kernel)]; kernel_rfl) | (rw [if_neg (by decide +kernel)]; exact ⟨rfl, rfl⟩))
    (fun os started H enc _ F => by rw [OpenClaim.pre_eq_preRow]; exact lifted os started H enc F)
theorem plain (f : FuncId) (fn : Func) (hf : Tryd.pinned.checked.prog.funcNamed Rows.fnOverlongRow.func = some f) (hfn : Tryd.pinned.checked.prog.funcs[f]? = some fn) :
    false = Tryd.pinned.checked.prog.looks [] ∧ ∀ (j : Nat) t, fn.params[j]? = some t → Tryd.pinned.checked.prog.wantsStandIn t = false := by
  obtain rfl : f = 4 := Option.some.inj ((show Tryd.prog.funcNamed Rows.fnOverlongRow.func = some 4 by kernel_rfl).symm.trans hf) |>.symm
  obtain rfl : fn = Tryd.f4 := (Option.some.inj (Tryd.func4.symm.trans hfn)).symm
  refine ⟨by kernel_rfl, fun j t ht => ?_⟩
  rw [Tryd.params4] at ht
  have hm := Array.mem_of_getElem? ht
  have hor : t = 21 ∨ t = 30 := by simp at hm; omega
  rcases hor with rfl | rfl
  · exact (show Tryd.prog.wantsStandIn 21 = false by kernel_rfl)
  · exact (show Tryd.prog.wantsStandIn 30 = false by kernel_rfl)
theorem said : Rows.FnOverlongCardSaid :=
  Claim7.holds_tied_plain_at .later [] _ _ _ _ row (fun _ h => by cases h) (by kernel_rfl) (fun _ h => by cases h) fnOverlong_row_tie rfl ⟨rfl, rfl⟩ (by kernel_rfl) rfl plain (by kernel_rfl)
end fnOverlong
end Go.Proofs.YtpijokiagkhdeaaDoor
