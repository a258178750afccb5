/- FnToValidByRange: what a range clause goes over tells the result: the pieces between its places, those of one byte that are RuneError being left out, with one replacement for each run of these. The condition: what is read is of bulk at most 1048576; the tables are those that the program lays. -/
import Derived.Test.YtcgpnmlemjldaaaDoorFrame
import Derived.Test.YtcgpnmlemjldaaaDoorToValid
import Derived.Test.YtcgpnmlemjldaaaDoorRange
namespace Go.Proofs.YtcgpnmlemjldaaaDoor
open Go.RowKit Go.Lib
set_option linter.unusedVariables false
theorem catB (a b : ByteArray) : (a ++ b).data.toList = a.data.toList ++ b.data.toList := by rw [ByteArray.data_append, Array.toList_append]
theorem cutS_two (s : ByteArray) (i e : Nat) (h : i ≤ e) (h2 : e ≤ s.size) (W : World) : (Instr.slice 9 (.string s) (some (.int .i64 (i : Int))) (some (.int .i64 (e : Int))) none).run Tryd.prog W = .ok (.string (s.extract i e)) W := by
  rw [run_slice_string W 9 s .i64 .i64 (i : Int) (e : Int) Tryd.underlying9 (by omega) (by omega) (by omega)]
  simp
theorem come_end {l : List UInt8} {i : Nat} {ps : List (Nat × Nat)} (h : Come l i ps) (hl : cnt l ≤ ps.length) : l.length ≤ i := by
  rcases Nat.lt_or_ge i l.length with h1 | h1
  · have := (h.at_ h1).1
    omega
  · exact h1
set_option maxRecDepth 100000 in
set_option maxHeartbeats 8000000 in
theorem fnToValidByRange_walk (s0 s1 : ByteArray) (w : World) (hT : Tabs w) (m0 : s0.size ≤ 1048576) (m1 : s1.size ≤ 1048576) (_hu : s0.size + s1.size ≤ 1048576) :
    Calls Tryd.prog 14 #[.string s0, .string s1] w fun e w' => e = .returned (.bool true) ∧ Nx w w' := by
  obtain ⟨L, hL⟩ : ∃ R, Hid (s0.data.toList = R) := ⟨_, rfl⟩
  have LL : Hid (L.length = s0.size) := by show _ = _; rw [← hL.out, size_list]
  obtain ⟨R, hR⟩ : ∃ R, Hid (s1.data.toList = R) := ⟨_, rfl⟩
  have LR : Hid (R.length = s1.size) := by show _ = _; rw [← hR.out, size_list]
  obtain ⟨T, hTT⟩ : ∃ T, Hid (toV R false L = T) := ⟨_, rfl⟩
  have hTl : T.length ≤ 1099512676352 := by rw [← hTT.out]; exact toV_small (by rw [LL.out]; exact m0) (by rw [LR.out]; exact m1) false
  obtain ⟨X, hX⟩ : ∃ X, Hid (strOf T = X) := ⟨_, rfl⟩
  have c0 := Lib.hid fun W (h : Tabs W) => toValid_any s0 s1 W h (by omega) (by rw [hL.out, hR.out, hTT.out]; omega)
  rw [hL.out, hR.out, hTT.out, hX.out] at c0
  have cr := Lib.hid fun W => range_any s0 W (by omega)
  rw [hL.out] at cr
  have hcl : cnt L ≤ s0.size := by have := cnt_le L; rw [LL.out] at this; exact this
  have hp0 : Hid (s0.size = 0 ∨ 0 < cnt L) := by
    by_cases h : s0.size = 0
    · exact Or.inl h
    · right
      refine cnt_pos _ ?_
      intro h0
      have := LL.out
      rw [h0] at this
      simp at this
      omega
  go_enter Tryd.func14, Tryd.ntmps14
  go_wp2_with fail
  refine (cr.out _).mono ?_
  rintro e w1 ⟨A1, n1, c1, A2, n2, c2, rfl, o1, o2, _, x1⟩
  have e1 : n1 = cnt L := by rw [o1.len]; unfold placesL; rw [placesGo_length]; rfl
  have e2 : n2 = cnt L := by rw [o2.len]; simp [runesL, cnt]
  obtain ⟨N, hNN⟩ : ∃ N, cnt L = N := ⟨_, rfl⟩
  rw [hNN] at e1 e2 hcl hp0
  have HN0 := Lib.hid hNN
  subst e2
  subst e1
  have sI := o1.sl
  have sR := o2.sl
  clear o1 o2 hNN
  have zn : ((n1 : Int) != (n1 : Int)) = false := by simp
  by_cases hs0 : s0.size = 0
  · have hz : n1 = 0 := by omega
    have hLn : L = [] := List.eq_nil_of_length_eq_zero (by rw [LL.out]; exact hs0)
    have hXe : X = ⟨#[]⟩ := by rw [← hX.out, ← hTT.out, hLn]; rfl
    subst hz
    subst hXe
    have zs : decide (0 < s0.size) = false := decide_eq_false (by omega)
    go_wp2_with fail
    go_loop [7, 8, 9] (fun v q i => v = .string ⟨#[]⟩ ∧ i = .int .i64 0) (fun _ _ _ => 0)
    case atStart => exact ⟨rfl, rfl⟩
    case round =>
      obtain ⟨rfl, rfl⟩ := hrel
      go_wp2_with fail
      refine (c0.out _ (hT.next x1)).mono ?_
      rintro e w2 ⟨rfl, x2⟩
      go_wp2_with fail
      go_ret
      exact ⟨rfl, x1.trans x2⟩
  · have hpos : 0 < n1 := by rcases hp0.out with h | h; · omega
                             · exact h
    have zp : ((n1 : Int) == 0) = false := by simp; omega
    have zs : 0 < s0.size := by omega
    clear hs0
    go_wp2_with fail
    go_loop [7, 8, 9] (fun v q i => ∃ (D : ByteArray) (b : Bool) (k at_ : Nat), k ≤ n1 ∧ at_ ≤ s0.size ∧ v = .string D ∧ q = .bool b ∧ i = .int .i64 k ∧ Hid (∃ ps, Come L at_ ps ∧ ps.length = k) ∧ Hid (D.data.toList ++ toV R b (L.drop at_) = T) ∧ D.size ≤ 1099512676352) (fun _ _ i => n1 - (RowKit.intOf i).toNat)
    case atStart => exact ⟨⟨#[]⟩, false, 0, 0, Nat.zero_le _, Nat.zero_le _, rfl, rfl, rfl, ⟨[], Come.start _, rfl⟩, hTT, by simp [ByteArray.size]⟩
    case round =>
      obtain ⟨D, b, k, at_, hk, hat, rfl, rfl, rfl, hco, hacc, hDs⟩ := hrel
      obtain ⟨ps, hcome, hpl'⟩ := hco.out
      have hpl := Lib.hid hpl'
      by_cases hlt : k < n1
      · have hatl : at_ < L.length := by
          rcases Nat.lt_or_ge at_ L.length with h | h
          · exact h
          · exfalso
            have := hcome.len h
            rw [hpl', HN0.out] at this
            omega
        obtain ⟨_, q2, q3, _⟩ := hcome.at_ hatl
        obtain ⟨hcome', hd1, hd2⟩ := hcome.step hatl
        rw [LL.out] at hd2
        rw [hpl'] at q2 q3
        obtain ⟨D1, D2, hD⟩ : ∃ D1 D2, Hid (dec (L.drop at_) = (D1, D2)) := ⟨_, _, rfl⟩
        rw [hD.out] at hcome' hd1 hd2 q3
        simp only at hcome' hd1 hd2 q3
        have HC2 := Lib.hid hcome'
        have hne : L.drop at_ ≠ [] := by intro h0; rw [List.drop_eq_nil_iff] at h0; omega
        have hdl : decodeL (L.drop at_) = (D1, D2) := by rw [← dec_of hne]; exact hD.out
        have HBD : Hid (bad (L.drop at_) ↔ (D1 = 65533 ∧ D2 = 1)) := by show _ ↔ _; unfold bad; rw [hdl]
        have HG : Hid (¬ (D1 = 65533 ∧ D2 = 1) → toV R b (L.drop at_) = (L.drop at_).take D2 ++ toV R false (L.drop (at_ + D2))) := by
          intro h
          have := toV_good R b _ hne (fun hb => h (HBD.out.1 hb))
          rw [hdl, List.drop_drop] at this
          exact this
        have HBB : Hid (D1 = 65533 ∧ D2 = 1 → toV R b (L.drop at_) = (if b then [] else R) ++ toV R true (L.drop (at_ + 1))) := by
          intro h
          have := toV_bad R b _ hne (HBD.out.2 h)
          rw [List.drop_drop] at this
          exact this
        obtain ⟨gi, fi, rfl, hgi, ci⟩ := sI.open_ (by omega)
        obtain ⟨gr, fr, rfl, hgr, cr'⟩ := sR.open_ (by omega)
        have i0 := ci k hlt
        have r0 := cr' k hlt
        rw [q2] at i0
        rw [q3] at r0
        have k1 : (k : Int) < (n1 : Int) := by omega
        have CI := Lib.hid ci
        clear hcome hco q2 q3 hne hdl hatl hpl' cr' ci sI sR c0
        by_cases hl2 : k + 1 < n1
        · obtain ⟨e, hE, he⟩ : ∃ e : Nat, Hid (e = at_ + D2) ∧ w1.cell? ⟨gi, fi + (k + 1), none⟩ = some (.int .i64 (e : Int)) := by
            have h5 := HC2.out
            have hat2 : at_ + D2 < L.length := by
              rcases Nat.lt_or_ge (at_ + D2) L.length with h | h
              · exact h
              · exfalso
                have := h5.len h
                rw [List.length_append, hpl.out, HN0.out] at this
                simp at this
                omega
            have h6 := (h5.at_ hat2).2.1
            rw [List.length_append, hpl.out] at h6
            refine ⟨at_ + D2, rfl, ?_⟩
            rw [CI.out (k + 1) hl2]
            simp only [List.length_cons, List.length_nil, Nat.zero_add] at h6
            rw [h6]
          have k2 : (k : Int) + 1 < (n1 : Int) := by omega
          clear hl2
          have g1 : at_ < e := by have := hE.out; omega
          have g2 : e ≤ s0.size := by have := hE.out; omega
          by_cases hw : D1 = 65533 ∧ D2 = 1
          · obtain ⟨w1', w2'⟩ := hw
            have z1 : ((D1 : Int) != 65533) = false := by simp; omega
            have z2 : (((e : Nat) : Int) - (at_ : Int) != 1) = false := by have := hE.out; simp; omega
            have h3 := hacc.out
            rw [HBB.out ⟨w1', w2'⟩] at h3
            cases b with
            | false =>
              rw [if_neg (by simp)] at h3
              have HN : Hid ((D ++ s1).data.toList ++ toV R true (L.drop (at_ + D2)) = T) := by show _ = _; rw [catB, hR.out, List.append_assoc, w2']; exact h3
              have hb2 : (D ++ s1).size ≤ 1099512676352 := by
                have h5 := part_len h3 hTl
                rw [size_list, LR.out] at h5
                rw [ByteArray.size_append]
                exact h5
              have hb3 : D.size + s1.size ≤ 9223372036854775807 := by rw [ByteArray.size_append] at hb2; omega
              clear w1' w2' h3
              go_wp2_with fail
              go_round
              case rel => exact ⟨D ++ s1, true, k + 1, at_ + D2, by omega, by have := hE.out; omega, rfl, rfl, by go_num, ⟨_, HC2.out, by rw [List.length_append, hpl.out]; rfl⟩, HN, hb2⟩
              case measure => simp [RowKit.intOf]; omega
            | true =>
              rw [if_pos rfl, List.nil_append] at h3
              have HN : Hid (D.data.toList ++ toV R true (L.drop (at_ + D2)) = T) := by show _ = _; rw [w2']; exact h3
              clear w1' w2' h3
              go_wp2_with fail
              go_round
              case rel => exact ⟨D, true, k + 1, at_ + D2, by omega, by have := hE.out; omega, rfl, rfl, by go_num, ⟨_, HC2.out, by rw [List.length_append, hpl.out]; rfl⟩, HN, hDs⟩
              case measure => simp [RowKit.intOf]; omega
          · have h3 := hacc.out
            rw [HG.out hw] at h3
            obtain ⟨Q, hQ⟩ : ∃ Q, Hid (s0.extract at_ e = Q) := ⟨_, rfl⟩
            have hQd : Hid (Q.data.toList = (L.drop at_).take D2) := by show _ = _; rw [← hQ.out, hE.out, mid_data, hL.out]
            have hml := fun W => cutS_two s0 at_ e (by omega) g2 W
            rw [hQ.out] at hml
            have HN : Hid ((D ++ Q).data.toList ++ toV R false (L.drop (at_ + D2)) = T) := by show _ = _; rw [catB, hQd.out, List.append_assoc]; exact h3
            have hb2 : (D ++ Q).size ≤ 1099512676352 := by
              have h5 := part_len h3 hTl
              rw [← hQd.out, size_list, size_list] at h5
              rw [ByteArray.size_append]
              exact h5
            have hb3 : D.size + Q.size ≤ 9223372036854775807 := by rw [ByteArray.size_append] at hb2; omega
            by_cases hw1 : D1 = 65533
            · have z1 : ((D1 : Int) != 65533) = false := by simp; omega
              have z2 : (((e : Nat) : Int) - (at_ : Int) != 1) = true := by have := hE.out; simp; omega
              clear hw hw1 h3
              go_wp2_with fail
              go_round
              case rel => exact ⟨D ++ Q, false, k + 1, at_ + D2, by omega, by have := hE.out; omega, rfl, rfl, by go_num, ⟨_, HC2.out, by rw [List.length_append, hpl.out]; rfl⟩, HN, hb2⟩
              case measure => simp [RowKit.intOf]; omega
            · have z1 : ((D1 : Int) != 65533) = true := by simp; omega
              clear hw hw1 h3
              go_wp2_with fail
              go_round
              case rel => exact ⟨D ++ Q, false, k + 1, at_ + D2, by omega, by have := hE.out; omega, rfl, rfl, by go_num, ⟨_, HC2.out, by rw [List.length_append, hpl.out]; rfl⟩, HN, hb2⟩
              case measure => simp [RowKit.intOf]; omega
        · have hE : Hid (s0.size = at_ + D2) := by
            show _ = _
            have := come_end HC2.out (by rw [List.length_append, hpl.out, HN0.out]; simp; omega)
            rw [LL.out] at this
            omega
          have k2 : decide ((k : Int) + 1 < (n1 : Int)) = false := by simp; omega
          clear hl2
          have g1 : at_ < s0.size := by have := hE.out; omega
          have g2 : s0.size ≤ s0.size := by have := hE.out; omega
          by_cases hw : D1 = 65533 ∧ D2 = 1
          · obtain ⟨w1', w2'⟩ := hw
            have z1 : ((D1 : Int) != 65533) = false := by simp; omega
            have z2 : (((s0.size : Nat) : Int) - (at_ : Int) != 1) = false := by have := hE.out; simp; omega
            have h3 := hacc.out
            rw [HBB.out ⟨w1', w2'⟩] at h3
            cases b with
            | false =>
              rw [if_neg (by simp)] at h3
              have HN : Hid ((D ++ s1).data.toList ++ toV R true (L.drop (at_ + D2)) = T) := by show _ = _; rw [catB, hR.out, List.append_assoc, w2']; exact h3
              have hb2 : (D ++ s1).size ≤ 1099512676352 := by
                have h5 := part_len h3 hTl
                rw [size_list, LR.out] at h5
                rw [ByteArray.size_append]
                exact h5
              have hb3 : D.size + s1.size ≤ 9223372036854775807 := by rw [ByteArray.size_append] at hb2; omega
              clear w1' w2' h3
              go_wp2_with fail
              go_round
              case rel => exact ⟨D ++ s1, true, k + 1, at_ + D2, by omega, by have := hE.out; omega, rfl, rfl, by go_num, ⟨_, HC2.out, by rw [List.length_append, hpl.out]; rfl⟩, HN, hb2⟩
              case measure => simp [RowKit.intOf]; omega
            | true =>
              rw [if_pos rfl, List.nil_append] at h3
              have HN : Hid (D.data.toList ++ toV R true (L.drop (at_ + D2)) = T) := by show _ = _; rw [w2']; exact h3
              clear w1' w2' h3
              go_wp2_with fail
              go_round
              case rel => exact ⟨D, true, k + 1, at_ + D2, by omega, by have := hE.out; omega, rfl, rfl, by go_num, ⟨_, HC2.out, by rw [List.length_append, hpl.out]; rfl⟩, HN, hDs⟩
              case measure => simp [RowKit.intOf]; omega
          · have h3 := hacc.out
            rw [HG.out hw] at h3
            obtain ⟨Q, hQ⟩ : ∃ Q, Hid (s0.extract at_ s0.size = Q) := ⟨_, rfl⟩
            have hQd : Hid (Q.data.toList = (L.drop at_).take D2) := by show _ = _; rw [← hQ.out, hE.out, mid_data, hL.out]
            have hml := fun W => cutS_two s0 at_ s0.size (by omega) g2 W
            rw [hQ.out] at hml
            have HN : Hid ((D ++ Q).data.toList ++ toV R false (L.drop (at_ + D2)) = T) := by show _ = _; rw [catB, hQd.out, List.append_assoc]; exact h3
            have hb2 : (D ++ Q).size ≤ 1099512676352 := by
              have h5 := part_len h3 hTl
              rw [← hQd.out, size_list, size_list] at h5
              rw [ByteArray.size_append]
              exact h5
            have hb3 : D.size + Q.size ≤ 9223372036854775807 := by rw [ByteArray.size_append] at hb2; omega
            by_cases hw1 : D1 = 65533
            · have z1 : ((D1 : Int) != 65533) = false := by simp; omega
              have z2 : (((s0.size : Nat) : Int) - (at_ : Int) != 1) = true := by have := hE.out; simp; omega
              clear hw hw1 h3
              go_wp2_with fail
              go_round
              case rel => exact ⟨D ++ Q, false, k + 1, at_ + D2, by omega, by have := hE.out; omega, rfl, rfl, by go_num, ⟨_, HC2.out, by rw [List.length_append, hpl.out]; rfl⟩, HN, hb2⟩
              case measure => simp [RowKit.intOf]; omega
            · have z1 : ((D1 : Int) != 65533) = true := by simp; omega
              clear hw hw1 h3
              go_wp2_with fail
              go_round
              case rel => exact ⟨D ++ Q, false, k + 1, at_ + D2, by omega, by have := hE.out; omega, rfl, rfl, by go_num, ⟨_, HC2.out, by rw [List.length_append, hpl.out]; rfl⟩, HN, hb2⟩
              case measure => simp [RowKit.intOf]; omega
      · have hfin : D = X := by
          have h9 : L.drop at_ = [] := List.drop_eq_nil_of_le (come_end hcome (by rw [hpl', HN0.out]; omega))
          have h3 := hacc.out
          rw [h9, toV_nil, List.append_nil] at h3
          rw [← hX.out, ← h3, strOf_list]
        subst hfin
        have hxx : (D.toList == D.toList) = true := by simp
        clear hcome hco
        go_wp2_with fail
        refine (c0.out _ (hT.next x1)).mono ?_
        rintro e w2 ⟨rfl, x2⟩
        go_wp2_with fail
        go_ret
        exact ⟨rfl, x1.trans x2⟩
namespace fnToValidByRange
open Go.ChangeShapes Go.WideShapes Go.ChangeAt Go.RowKit
open Go.ChangeMaps (open_string shut_string)
set_option maxRecDepth 100000 in
set_option linter.unusedVariables false in
theorem laid_met (os : Os) : laidMet Tryd.prog Rows.fnToValidByRangeUptoRow.laid ((laidWorld os).forCall (fun _ _ => 0) ⟨#[], #[.string ⟨#[]⟩, .string ⟨#[]⟩], []⟩).memory :=
  laidMet_of_run' 8 (by kernel_rfl) (by kernel_rfl)
theorem reads (os : Os) {H : Type} (enc : TypeId × Value → H) : ∃ places, DataW.whole enc Tryd.prog ((laidWorld os).forCall (fun _ _ => 0) ⟨#[], #[.string ⟨#[]⟩, .string ⟨#[]⟩], []⟩).memory Tryd.f14.params.toList Rows.fnToValidByRangeSpec.vars false (#[.string ⟨#[]⟩, .string ⟨#[]⟩] : Array Value).toList 8 = some ([.lit (.string []), .lit (.string [])], [], places) :=
  ⟨[], by kernel_rfl⟩
set_option maxRecDepth 100000 in
set_option linter.unusedVariables false in
theorem lifted (os : Os) (started : os.Started) (H : Type) (enc : TypeId × Value → H) (F : Stop.Interp) :
    ReturnsInHanded {} Tryd.checked os 14 .any ((Rows.OpenSpec.upto Rows.fnToValidByRangeSpec).preRow enc Tryd.prog Tryd.f14 Rows.fnToValidByRangeUptoRow.domain false Rows.fnToValidByRangeUptoRow.laid) (((Rows.OpenSpec.upto Rows.fnToValidByRangeSpec).at F).post enc Tryd.prog Tryd.f14 false true false false) := by
  obtain ⟨places, hx⟩ := reads os enc
  refine returnsInHanded_of_row (C := Tryd.checked) (s := (Rows.OpenSpec.upto Rows.fnToValidByRangeSpec)) own started (by kernel_rfl) Tryd.func14
    (witness_row_at (enc := enc) (C := Tryd.checked) false (laidWorld os) #[.string ⟨#[]⟩, .string ⟨#[]⟩] rfl (by kernel_rfl) (by kernel_rfl) (by kernel_rfl)
      (OpenSpec.preRow_of_cond 8 hx (by kernel_rfl) (fun k hk => by cases hk; kernel_rfl) (by kernel_rfl) (laid_met os))) ?_
  intro W base args ds gs before hval0 hW _ hkk hsz0 hL _ _
  have hk := hkk _ rfl
  have hval : ∀ (j : Nat) t v, Tryd.f14.params[j]? = some t → args[j]? = some v → Value.okWide Tryd.prog W .any base t v := hval0
  have hW' := hW
  obtain ⟨p, q, hA0, hV, rfl, hfz, hnd⟩ := hW
  have hA : DataW.TrodAll enc Tryd.prog W 0 (fun _ => true) true Tryd.f14.params.toList args.toList ds p := hA0
  rw [Tryd.params14] at hA hval
  obtain ⟨v0, vs0, d0, ds0, p0, q0, hargs, rfl, rfl, h0, r0⟩ := trodAll_cons hA
  obtain ⟨v1, vs1, d1, ds1, p1, q1, rfl, rfl, rfl, h1, r1⟩ := trodAll_cons r0
  obtain ⟨rfl, rfl, rfl⟩ := trodAll_nil r1
  obtain rfl : args = #[v0, v1] := by cases args; simp_all
  obtain ⟨rfl, rfl⟩ := trodVars_none hV
  have k0 := h0
  have lt0 : ∀ x ∈ p0, x.block < W.heap.size := by obtain ⟨m, hm⟩ := k0; exact DataW.trod_lt m _ _ _ hm
  obtain ⟨s0, rfl, rfl, rfl, w0⟩ := open_string Tryd.underlying9 (hval 0 9 v0 rfl rfl) h0
  have z0 : s0.size ≤ 1048576 := by have := bulk_str (H := H) s0; have hb := bulk_bound hk; simp only [Rows.uptoBulkAll, List.append_nil] at hb; omega
  have k1 := h1
  have lt1 : ∀ x ∈ p1, x.block < W.heap.size := by obtain ⟨m, hm⟩ := k1; exact DataW.trod_lt m _ _ _ hm
  obtain ⟨s1, rfl, rfl, rfl, w1⟩ := open_string Tryd.underlying9 (hval 1 9 v1 rfl rfl) h1
  have z1 : s1.size ≤ 1048576 := by have := bulk_str (H := H) s1; have hb := bulk_bound hk; simp only [Rows.uptoBulkAll, List.append_nil] at hb; omega
  have hu : s0.size + s1.size ≤ 1048576 := by have q0 := bulk_str (H := H) s0; have q1 := bulk_str (H := H) s1; have hb := bulk_bound hk; simp only [Rows.uptoBulkAll, List.append_nil] at hb; omega
  clear hA0 hval0
  refine (fnToValidByRange_walk s0 s1 W (tabs hL) z0 z1 hu).mono fun e W' ⟨he, bel⟩ => ?_
  subst he
  exact ⟨_, rfl, _, _, _, [], _, [], hW', trodAll_mk1 (shut_bool Tryd.underlying4 _), (trodAll_cons_mk (shut_string Tryd.underlying9 w0) (trodAll_cons_mk (shut_string Tryd.underlying9 w1) trodAll_mk0)), rfl, bel.out.frame _, fun h => by cases h⟩
theorem row : Rows.FnToValidByRangeUptoSaid :=
  OpenClaim.holds_of_cond 14 Tryd.f14 rfl rfl rfl rfl rfl rfl rfl ⟨rfl, rfl, rfl, rfl, rfl⟩ rfl rfl rfl rfl rfl (by kernel_rfl) Tryd.func14 (by kernel_rfl)
    (of_decide_eq_true (by kernel_rfl)) (by unfold Func.isWrapper; first | (rw [if_pos (by decide +kernel)]; kernel_rfl) | (rw [if_neg (by decide +kernel)]; exact ⟨rfl, rfl⟩))
    (fun os started H enc _ F => by rw [OpenClaim.pre_eq_preRow]; exact lifted os started H enc F)
theorem plain (f : FuncId) (fn : Func) (hf : Tryd.pinned.checked.prog.funcNamed Rows.fnToValidByRangeUptoRow.func = some f) (hfn : Tryd.pinned.checked.prog.funcs[f]? = some fn) :
    false = Tryd.pinned.checked.prog.looks [] ∧ ∀ (j : Nat) t, fn.params[j]? = some t → Tryd.pinned.checked.prog.wantsStandIn t = false := by
  obtain rfl : f = 14 := Option.some.inj ((show Tryd.prog.funcNamed Rows.fnToValidByRangeUptoRow.func = some 14 by kernel_rfl).symm.trans hf) |>.symm
  obtain rfl : fn = Tryd.f14 := (Option.some.inj (Tryd.func14.symm.trans hfn)).symm
  refine ⟨by kernel_rfl, fun j t ht => ?_⟩
  rw [Tryd.params14] at ht
  have hm := Array.mem_of_getElem? ht
  have hor : t = 9 := by simp at hm; omega
  subst hor
  exact (show Tryd.prog.wantsStandIn 9 = false by kernel_rfl)
theorem said : Rows.FnToValidByRangeUptoCardSaid :=
  Claim7.holds_tied_plain_at .later [] _ _ _ _ row (fun _ h => by cases h) (by kernel_rfl) (fun _ h => by cases h) fnToValidByRangeUpto_row_tie rfl ⟨rfl, rfl⟩ (by kernel_rfl) rfl plain (by kernel_rfl)
end fnToValidByRange
end Go.Proofs.YtcgpnmlemjldaaaDoor
