/- FnRangePlaces: the places of a range clause begin with 0 and are one to four bytes apart; what stands between two of them is the encoding of the rune, or one byte. The condition: what is read is of bulk at most 1048576. -/
import Derived.Test.YtliaaandgeogjaaFrame
import Derived.Test.YtliaaandgeogjaaRange
import Derived.Test.YtliaaandgeogjaaConv
import Derived.Test.YtliaaandgeogjaaPlainE
import Derived.Lib.ValidAsc
namespace Go.Proofs.Ytliaaandgeogjaa
open Go.RowKit Go.Lib
set_option linter.unusedVariables false
theorem toList_inj {x y : ByteArray} (h : x.toList = y.toList) : x = y := by
  rw [ByteArray.toList_eq, ByteArray.toList_eq] at h
  cases x; cases y
  simpa using h
theorem cut_between (s : ByteArray) (i j : Nat) (h : i ≤ j) (h2 : j ≤ s.size) (W : World) : (Instr.slice 9 (.string s) (some (.int .i64 (i : Int))) (some (.int .i64 (j : Int))) none).run Try.prog W = .ok (.string (s.extract i j)) W := by
  rw [run_slice_string W 9 s .i64 .i64 (i : Int) (j : Int) Try.underlying9 (by omega) (by omega) (by omega)]
  simp
theorem ext_between (t : ByteArray) (i j : Nat) : (t.extract i j).data.toList = (t.data.toList.drop i).take (j - i) := by
  simp [ByteArray.data_extract]
set_option maxRecDepth 100000 in
set_option maxHeartbeats 2000000 in
theorem fnRangePlaces_walk (s0 : ByteArray) (w : World) (m0 : s0.size ≤ 1048576) :
    Calls Try.prog 4 #[.string s0] w fun e w' => e = .returned (.bool true) ∧ Nx w w' := by
  have LX := Lib.hid (size_list s0)
  obtain ⟨C, hC⟩ : ∃ K, Hid (cnt s0.data.toList = K) := ⟨_, rfl⟩
  have hr : Hid ((runesL s0.data.toList).length = C) := by show _ = _; rw [← hC.out]; simp [runesL, cnt]
  have hp : Hid ((placesL s0.data.toList).length = C) := by show _ = _; rw [← hC.out]; unfold placesL; rw [placesGo_length]; rfl
  have hCb : C ≤ 1048576 := by have := cnt_le s0.data.toList; rw [size_list, hC.out] at this; omega
  go_enter Try.func4, Try.ntmps4
  go_wp2_with fail
  refine (range_any s0 _ (by omega)).mono ?_
  rintro e w1 ⟨A1, n1, c1, A2, n2, c2, rfl, o1, o2, _, x1⟩
  have e1 : n1 = C := by rw [o1.len, hp.out]
  have e2 : n2 = C := by rw [o2.len, hr.out]
  subst e2
  subst e1
  have s1 := o1.sl
  have s2 := o2.sl
  clear o1 o2
  have r3 : ((n1 : Int) != (n1 : Int)) = false := by simp
  have hz : s0.size = 0 ∧ n1 = 0 ∨ 0 < s0.size ∧ 0 < n1 := by
    rcases Nat.eq_zero_or_pos s0.size with h | h
    · left
      have := cnt_le s0.data.toList
      rw [size_list, hC.out] at this
      exact ⟨h, by omega⟩
    · right
      obtain ⟨q1, _⟩ := (Come.start s0.data.toList).at_ (by rw [LX.out]; exact h)
      rw [hC.out] at q1
      exact ⟨h, by simpa using q1⟩
  rcases hz with ⟨h1, h2⟩ | ⟨h1, h2⟩
  · have hz1 : ¬ 0 < s0.size := by omega
    subst h2
    clear h1
    go_wp2_with fail
    go_loopw [5] (fun a wr => a = .int .i64 0 ∧ Nx w1 wr) (fun _ _ => 0)
    case atStart => exact ⟨rfl, Nx.refl _⟩
    case round =>
      obtain ⟨rfl, hnx⟩ := hrel
      go_wp2_with fail
      go_ret
      exact ⟨rfl, x1.trans hnx⟩
  · go_wp2_with fail
    go_loopw [5] (fun a wr => ∃ j : Nat, j ≤ n1 ∧ a = .int .i64 j ∧ Hid (∃ P ps, Come s0.data.toList P ps ∧ ps.length = j) ∧ Nx w1 wr) (fun a _ => n1 - (RowKit.intOf a).toNat)
    case atStart => exact ⟨0, Nat.zero_le _, rfl, ⟨0, [], Come.start _, rfl⟩, Nx.refl _⟩
    case round =>
      obtain ⟨j, hj, rfl, hco, hnx⟩ := hrel
      obtain ⟨P, ps, hcome, hpl⟩ := hco.out
      by_cases hlt : j < n1
      · have hP : P < s0.size := by
          apply Classical.byContradiction
          intro hc
          have := hcome.len (by rw [LX.out]; omega)
          rw [hC.out] at this
          omega
        obtain ⟨q1, q2, q3, q4⟩ := hcome.at_ (by rw [LX.out]; exact hP)
        obtain ⟨hcome', hd1, hd2⟩ := hcome.step (by rw [LX.out]; exact hP)
        rw [LX.out] at hd2
        rw [hpl] at q1 q2 q3
        rw [hC.out] at q1
        have hne : s0.data.toList.drop P ≠ [] := by
          intro h0
          rw [List.drop_eq_nil_iff, LX.out] at h0
          omega
        obtain ⟨D1, D2, D3, D4, D5⟩ := dec_bounds (s0.data.toList.drop P)
        have hown := enc_dec (s0.data.toList.drop P) hne
        obtain ⟨R, hR⟩ : ∃ K, Hid ((dec (s0.data.toList.drop P)).1 = K) := ⟨_, rfl⟩
        obtain ⟨K, hK⟩ : ∃ K, Hid ((dec (s0.data.toList.drop P)).2 = K) := ⟨_, rfl⟩
        rw [hR.out] at q3 hown
        rw [hK.out] at hcome' hd1 hd2 D2 hown
        have HC2 : Hid (∃ P ps, Come s0.data.toList P ps ∧ ps.length = j + 1) := ⟨_, _, hcome', by simp [hpl]⟩
        obtain ⟨X, hX⟩ : ∃ X, Hid (s0.extract P (P + K) = X) := ⟨_, rfl⟩
        have hXd : Hid (X.data.toList = (s0.data.toList.drop P).take K) := by show _ = _; rw [← hX.out, ext_between, Nat.add_sub_cancel_left]
        have hsl := fun W => cut_between s0 P (P + K) (by omega) hd2 W
        rw [hX.out] at hsl
        have hXs : X.size = K := by
          rw [← size_list, hXd.out, List.length_take, List.length_drop, LX.out]
          omega
        have hfin : X = strOf (encodeRune R) ∨ X ≠ strOf (encodeRune R) ∧ R = 65533 ∧ K = 1 := by
          by_cases hb : R = 65533 ∧ K ≤ 1
          · by_cases hx : X = strOf (encodeRune R)
            · exact .inl hx
            · exact .inr ⟨hx, hb.1, by omega⟩
          · left
            rw [hown hb, ← hXd.out, strOf_list]
        have hend : j + 1 < n1 ∧ (placesL s0.data.toList).getD (j + 1) 0 = ((P + K : Nat) : Int) ∨ j + 1 = n1 ∧ P + K = s0.size := by
          by_cases hl : P + K < s0.size
          · left
            obtain ⟨v1, v2, _, _⟩ := hcome'.at_ (by rw [LX.out]; exact hl)
            rw [List.length_append, hpl] at v1 v2
            rw [hC.out] at v1
            exact ⟨v1, v2⟩
          · right
            have := hcome'.len (by rw [LX.out]; omega)
            rw [List.length_append, hpl, hC.out] at this
            exact ⟨this, by omega⟩
        have hj0 : j = 0 → P = 0 := by
          intro h
          rw [h] at hpl
          have := List.eq_nil_of_length_eq_zero hpl
          rw [← hcome.2.1, this]
          rfl
        obtain ⟨E, hE⟩ : ∃ E, Hid (P + K = E) := ⟨_, rfl⟩
        rw [hE.out] at hsl hd2 hend
        have hE1 : P < E := by have := hE.out; omega
        have hE4 : E ≤ P + 4 := by have := hE.out; omega
        obtain ⟨Z, hZ⟩ : ∃ Z, Hid (strOf (encodeRune R) = Z) := ⟨_, rfl⟩
        have cs := Lib.hid fun W => stringOfRune_any R W
        rw [hZ.out] at cs hfin
        have HN := Lib.hid hend
        have HF : Hid (X = Z ∨ X ≠ Z ∧ R = 65533 ∧ X.size = 1) := by
          rcases hfin with h | ⟨h, h', h''⟩
          · exact .inl h
          · exact .inr ⟨h, h', by rw [hXs, h'']⟩
        obtain ⟨b2, f2, u2, rfl, hb2, d2, hu2⟩ := (s2.next hnx).at_ (k := j) q1
        have E2 : u2 = (R : Int) := by rw [← hu2.out, q3]
        obtain ⟨b1, f1, u1, rfl, hb1, d1, hu1⟩ := (s1.next hnx).at_ (k := j) q1
        have E1 : u1 = (P : Int) := by rw [← hu1.out, q2]
        subst E1 E2
        have HD := Lib.hid D1
        rw [hR.out] at HD
        have HXs := Lib.hid hXs
        have HD2 := Lib.hid D2
        have HJ := Lib.hid hj0
        have k1 : decide ((E : Int) ≤ (P : Int)) = false := by simp; omega
        have k2 : decide ((P : Int) + 4 < (E : Int)) = false := by simp; omega
        have k3 : decide ((s0.size : Int) < (E : Int)) = false := by simp; omega
        clear hcome hcome' hco q2 q3 q4 hpl hu1 hu2 hne D1 D2 D3 D4 D5 hown hend hfin hXs hj0 hd1
        rcases HN.out with ⟨g1, g2⟩ | ⟨g1, g2⟩
        · obtain ⟨b3, f3, u3, e3, hb3, d3, hu3⟩ := (s1.next hnx).at_ (k := j + 1) g1
          injection e3 with e3
          injection e3 with e3 e4
          subst e3 e4
          have E3 : u3 = (E : Int) := by rw [← hu3.out, g2]
          subst E3
          clear g2 hu3
          rcases Nat.eq_zero_or_pos j with hh | hh
          · have kP : ((P : Int) != 0) = false := by simp [HJ.out hh]
            subst hh
            simp only [Nat.add_zero, Nat.zero_add] at d1 d2 d3
            go_wp2_with fail
            refine (cs.out _).mono ?_
            rintro e w2 ⟨rfl, rfl⟩
            rcases HF.out with h | ⟨h, h', h''⟩
            · subst h
              have kx : (X.toList != X.toList) = false := by simp
              clear hsl
              go_wp2_with fail
              go_roundw
              case rel => exact ⟨0 + 1, by omega, by go_num, HC2, hnx⟩
              case measure => simp [RowKit.intOf]; omega
            · have kx : ¬ X.toList = Z.toList := fun hq => h (toList_inj hq)
              have kr : ((R : Int) != 65533) = false := by simp [h']
              have ks : ((X.size : Int) != 1) = false := by simp [h'']
              clear hsl h h' h''
              go_wp2_with fail
              go_roundw
              case rel => exact ⟨0 + 1, by omega, by go_num, HC2, hnx⟩
              case measure => simp [RowKit.intOf]; omega
          · have k0 : ¬ (j : Int) = 0 := by omega
            go_wp2_with fail
            refine (cs.out _).mono ?_
            rintro e w2 ⟨rfl, rfl⟩
            rcases HF.out with h | ⟨h, h', h''⟩
            · subst h
              have kx : (X.toList != X.toList) = false := by simp
              clear hsl
              go_wp2_with fail
              go_roundw
              case rel => exact ⟨j + 1, by omega, by go_num, HC2, hnx⟩
              case measure => simp [RowKit.intOf]; omega
            · have kx : ¬ X.toList = Z.toList := fun hq => h (toList_inj hq)
              have kr : ((R : Int) != 65533) = false := by simp [h']
              have ks : ((X.size : Int) != 1) = false := by simp [h'']
              clear hsl h h' h''
              go_wp2_with fail
              go_roundw
              case rel => exact ⟨j + 1, by omega, by go_num, HC2, hnx⟩
              case measure => simp [RowKit.intOf]; omega
        · subst g2
          have gk : ¬ ((j : Int) + 1 < (n1 : Int)) := by omega
          clear g1 HN
          rcases Nat.eq_zero_or_pos j with hh | hh
          · have kP : ((P : Int) != 0) = false := by simp [HJ.out hh]
            subst hh
            simp only [Nat.add_zero] at d1 d2
            go_wp2_with fail
            refine (cs.out _).mono ?_
            rintro e w2 ⟨rfl, rfl⟩
            rcases HF.out with h | ⟨h, h', h''⟩
            · subst h
              have kx : (X.toList != X.toList) = false := by simp
              clear hsl
              go_wp2_with fail
              go_roundw
              case rel => exact ⟨0 + 1, by omega, by go_num, HC2, hnx⟩
              case measure => simp [RowKit.intOf]; omega
            · have kx : ¬ X.toList = Z.toList := fun hq => h (toList_inj hq)
              have kr : ((R : Int) != 65533) = false := by simp [h']
              have ks : ((X.size : Int) != 1) = false := by simp [h'']
              clear hsl h h' h''
              go_wp2_with fail
              go_roundw
              case rel => exact ⟨0 + 1, by omega, by go_num, HC2, hnx⟩
              case measure => simp [RowKit.intOf]; omega
          · have k0 : ¬ (j : Int) = 0 := by omega
            go_wp2_with fail
            refine (cs.out _).mono ?_
            rintro e w2 ⟨rfl, rfl⟩
            rcases HF.out with h | ⟨h, h', h''⟩
            · subst h
              have kx : (X.toList != X.toList) = false := by simp
              clear hsl
              go_wp2_with fail
              go_roundw
              case rel => exact ⟨j + 1, by omega, by go_num, HC2, hnx⟩
              case measure => simp [RowKit.intOf]; omega
            · have kx : ¬ X.toList = Z.toList := fun hq => h (toList_inj hq)
              have kr : ((R : Int) != 65533) = false := by simp [h']
              have ks : ((X.size : Int) != 1) = false := by simp [h'']
              clear hsl h h' h''
              go_wp2_with fail
              go_roundw
              case rel => exact ⟨j + 1, by omega, by go_num, HC2, hnx⟩
              case measure => simp [RowKit.intOf]; omega
      · obtain rfl : j = n1 := by omega
        go_wp2_with fail
        go_ret
        exact ⟨rfl, x1.trans hnx⟩
namespace fnRangePlaces
open Go.ChangeShapes Go.WideShapes Go.ChangeAt Go.RowKit
open Go.ChangeMaps (open_string shut_string)
set_option maxRecDepth 100000 in
set_option linter.unusedVariables false in
theorem lifted (os : Os) (started : os.Started) (H : Type) (enc : TypeId × Value → H) (F : Stop.Interp) :
    ReturnsInHanded {} Try.checked os 4 .any ((Rows.OpenSpec.upto Rows.fnRangePlacesSpec).pre6 enc Try.prog Try.f4 Rows.fnRangePlacesUptoRow.domain false) (((Rows.OpenSpec.upto Rows.fnRangePlacesSpec).at F).post enc Try.prog Try.f4 false true false false) := by
  refine returnsInHanded_of_cond (C := Try.checked) (s := Rows.OpenSpec.upto Rows.fnRangePlacesSpec) (k := Rows.uptoSmall) rfl own started (by kernel_rfl) Try.func4
    (OpenSpec.witness (enc := enc) (C := Try.checked) (s := Rows.OpenSpec.upto Rows.fnRangePlacesSpec) (k := Rows.uptoSmall) rfl false ⟨#[], #[.string ⟨#[]⟩], []⟩ 8 (by kernel_rfl) (by kernel_rfl) (by kernel_rfl)
      (x := ([.lit (.string [])], [], [])) (by kernel_rfl) rfl (by kernel_rfl)) ?_
  intro W base args ds gs before hval0 hW _ hk _
  have hval : ∀ (j : Nat) t v, Try.f4.params[j]? = some t → args[j]? = some v → Value.okWide Try.prog W .any base t v := hval0
  have hW' := hW
  obtain ⟨p, q, hA0, hV, rfl, hfz, hnd⟩ := hW
  have hA : DataW.TrodAll enc Try.prog W 0 (fun _ => true) true Try.f4.params.toList args.toList ds p := hA0
  rw [Try.params4] at hA hval
  obtain ⟨v0, vs0, d0, ds0, p0, q0, hargs, rfl, rfl, h0, r0⟩ := trodAll_cons hA
  obtain ⟨rfl, rfl, rfl⟩ := trodAll_nil r0
  obtain rfl : args = #[v0] := by cases args; simp_all
  obtain ⟨rfl, rfl⟩ := trodVars_none hV
  have k0 := h0
  have lt0 : ∀ x ∈ p0, x.block < W.heap.size := by obtain ⟨m, hm⟩ := k0; exact DataW.trod_lt m _ _ _ hm
  obtain ⟨s0, rfl, rfl, rfl, w0⟩ := open_string Try.underlying9 (hval 0 9 v0 rfl rfl) h0
  have z0 : s0.size ≤ 1048576 := by have := bulk_str (H := H) s0; have hb := bulk_bound hk; simp only [Rows.uptoBulkAll, List.append_nil] at hb; omega
  clear hA0 hval0
  refine (fnRangePlaces_walk s0 W z0).mono fun e W' ⟨he, bel⟩ => ?_
  subst he
  exact ⟨_, rfl, _, _, _, [], _, [], hW', trodAll_mk1 (shut_bool Try.underlying4 _), (trodAll_cons_mk (shut_string Try.underlying9 w0) trodAll_mk0), rfl, bel.out.frame _, fun h => by cases h⟩
theorem said : Rows.FnRangePlacesUptoSaid :=
  OpenClaim.holds_of_cond 4 Try.f4 rfl rfl rfl rfl rfl rfl rfl ⟨rfl, rfl, rfl, rfl, rfl⟩ rfl rfl rfl rfl rfl (by kernel_rfl) Try.func4 (by kernel_rfl)
    (of_decide_eq_true (by kernel_rfl)) (by unfold Func.isWrapper; first | (rw [if_pos (by decide +kernel)]; kernel_rfl) | (rw [if_neg (by decide +kernel)]; exact ⟨rfl, rfl⟩))
    (fun os started H enc _ F => lifted os started H enc F)
end fnRangePlaces
end Go.Proofs.Ytliaaandgeogjaa
