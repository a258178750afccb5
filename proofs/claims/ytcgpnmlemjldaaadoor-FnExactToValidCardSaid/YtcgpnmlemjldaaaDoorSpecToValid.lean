/- Contract: spec.ToValid: the pieces that are encodings, with one replacement for each run of bytes that are none. -/
import Derived.Test.YtcgpnmlemjldaaaDoorSteps
import Derived.Test.YtcgpnmlemjldaaaDoorSpecValid
import Derived.Test.YtcgpnmlemjldaaaDoorPlainG
import Derived.Test.YtcgpnmlemjldaaaDoorToValid
import Derived.Lib.AppendStr
namespace Go.Proofs.YtcgpnmlemjldaaaDoor
open Go.RowKit Go.Lib
set_option linter.unusedVariables false
theorem tv_info : (Tryd.prog.info? 5).map (fun i => (i.zero, i.size, i.bytes)) = some (some (.int .u8 0), 1, 1) := by kernel_rfl
/-- A string, appended onto a row of the call's own. -/
theorem wpList_append_str (w : World) {ops : Array Oper} {rest : List Oper} {o : Oper} {a : Act} {Q : Exit → Act → World → Prop} (hgd : o.guard = none) (sl x : Operand) (t u : TypeId)
    (ho : o.op = .call { callee := .builtin .append, args := #[sl, x], argTypes := #[t, u] })
    (B : Nat) (e : TypeId) (i : TypeInfo) (ht : Tryd.prog.underlying t = some (.slice e)) (hu : Tryd.prog.underlying u = some .string) (hi : Tryd.prog.info? e = some i) (hz : i.zero = some (.int .u8 0))
    (hsize : i.size = 1) (hby : i.bytes = 1)
    (A : Option Addr) (n cap : Nat) (l : List UInt8) (hs : a.eval sl = .slice A n cap) (hown : Own .u8 e B w A n cap (nums l)) (s : ByteArray) (hx : a.eval x = .string s)
    (hbytes : n + s.size ≤ 140737488355328) (hbase : B ≤ w.heap.size)
    (h : ∀ A2 n2 cap2 w', Own .u8 e B w' A2 n2 cap2 (nums (l ++ s.data.toList)) → w.grownBy w' (blk A) → wpList Tryd.prog ops Q rest (a.put o.dst (.slice A2 n2 cap2)) w') : wpList Tryd.prog ops Q (o :: rest) a w := by
  refine Lib.wpList_append_own_string w hgd sl x t u ho B e i ht hu hi hz hsize hby (.slice A n cap) n _ hs hown.2 s hx (by simp only [maxLen]; omega) hbytes hbase ?_
  intro v' w' h1 h2 _
  have shape : ∃ A2 cap2, v' = .slice A2 (n + s.size) cap2 := by
    rcases h1.2 with ⟨h3, h4⟩ | ⟨g, c, cur, h3, _⟩
    · rw [h4]; exact ⟨_, _, h3⟩
    · exact ⟨_, _, h3⟩
  obtain ⟨A2, cap2, rfl⟩ := shape
  rw [blk_own] at h2
  refine h A2 _ cap2 w' ⟨?_, ?_⟩ h2
  · rw [nums_length, List.length_append, size_list]
    have := hown.len
    rw [nums_length] at this
    omega
  · have : (nums (l ++ s.data.toList)).map (Value.int .u8) = (nums l).map (Value.int .u8) ++ Lib.strCells s := by
      rw [nums_append, List.map_append]
      congr 1
      simp [nums, Lib.strCells]
    rw [this]
    exact h1
/-- What the loop holds: the steps that are behind it, whether the last one was wrong, and what has been written. -/
structure TvRel (L R T : List UInt8) (w wr : World) (k at_ : Nat) (A : Option Addr) (n c : Nat) : Prop where
  inv : ∃ (ps : List (Nat × Nat)) (b : Bool) (acc : List UInt8), Come L at_ ps ∧ ps.length = k ∧ ((k = 0 ∧ b = false) ∨ (0 < k ∧ b = wrongB (ps.getD (k - 1) (0, 0)))) ∧ acc ++ toV R b (L.drop at_) = T ∧ Own .u8 5 w.heap.size wr A n c (nums acc)
  nx : Nx w wr
theorem prev_runes {L : List UInt8} {i : Nat} {ps : List (Nat × Nat)} (h : Come L i ps) (j : Nat) (hj : j < ps.length) : (runesL L).getD j 0 = ((ps.getD j (0, 0)).1 : Int) ∧ (sizesL L).getD j 0 = ((ps.getD j (0, 0)).2 : Int) := by
  obtain ⟨_, _, h3, _⟩ := h
  unfold runesL sizesL
  rw [h3, List.map_append, List.map_append]
  simp only [List.getD]
  rw [List.getElem?_append_left (by simpa using hj), List.getElem?_append_left (by simpa using hj)]
  simp [List.getElem?_eq_getElem hj]
set_option maxRecDepth 100000 in
set_option maxHeartbeats 4000000 in
theorem specToValid_any (s rep : ByteArray) (w : World) (h1 : s.size ≤ 17592186044416) (h2' : (toV rep.data.toList false s.data.toList).length ≤ 140737488355328) :
    Calls Tryd.prog 27 #[.string s, .string rep] w fun e w' => e = .returned (.string (strOf (toV rep.data.toList false s.data.toList))) ∧ Nx w w' := by
  obtain ⟨i0, hi0, hz0, hz1, hz2⟩ := info_parts tv_info
  obtain ⟨R, hR⟩ : ∃ R, Hid (rep.data.toList = R) := ⟨_, rfl⟩
  have LR : Hid (R.length = rep.size) := by show _ = _; rw [← hR.out, size_list]
  obtain ⟨L, hL⟩ : ∃ R, Hid (s.data.toList = R) := ⟨_, rfl⟩
  have LL : Hid (L.length = s.size) := by show _ = _; rw [← hL.out, size_list]
  obtain ⟨T, hTT⟩ : ∃ T, Hid (toV R false L = T) := ⟨_, rfl⟩
  rw [hR.out, hL.out, hTT.out] at h2' ⊢
  have h2 := h2'
  clear h2'
  have hcv := fun W => run_str_bytes (P := Tryd.prog) 9 22 5 Tryd.underlying9 Tryd.underlying22 Tryd.underlying5 s W
  have xs := nx_str_bytes 5 s w
  go_enter Tryd.func27, Tryd.ntmps27
  go_wp2_with fail
  refine (steps_any _ _ _ s.data.toList _ (by_str_bytes _ _ _) (grownCap_ge _ _ _ _) (by omega)).mono ?_
  rw [hL.out]
  rintro e w1 ⟨B1, b1, d1, B2, b2, d2, B3, b3, d3, rfl, _, oR, oS, x1⟩
  have y1 := xs.trans x1
  clear hcv
  have hN : Hid ((steps L).length = cnt L) := rfl
  have e2 : b2 = cnt L := by rw [oR.len]; simp [runesL, cnt]
  have e3 : b3 = cnt L := by rw [oS.len]; simp [sizesL, cnt]
  have hcl : cnt L ≤ s.size := by have := cnt_le L; rw [LL.out] at this; exact this
  obtain ⟨N, hNN⟩ : ∃ N, cnt L = N := ⟨_, rfl⟩
  rw [hNN] at e2 e3 hcl
  have HN0 := Lib.hid hNN
  subst e3
  subst e2
  have sR := oR.sl
  have sS := oS.sl
  clear oR oS hNN
  go_wp2_with fail
  go_loopw [8, 9, 10] (fun o a i wr => ∃ (k at_ : Nat) (A : Option Addr) (n c : Nat), k ≤ b2 ∧ at_ ≤ s.size ∧ i = .int .i64 k ∧ a = .int .i64 at_ ∧ o = .slice A n c ∧ TvRel L R T w1 wr k at_ A n c) (fun _ _ i _ => b2 - (RowKit.intOf i).toNat)
  case atStart =>
    refine ⟨0, 0, _, 0, 0, Nat.zero_le _, Nat.zero_le _, rfl, rfl, rfl, ⟨[], false, [], Come.start _, rfl, Or.inl ⟨rfl, rfl⟩, by rw [List.drop_zero, List.nil_append]; exact hTT.out, ?_⟩, (Nx.refl _).alloc _⟩
    exact Own.new .u8 _ w1.heap.size w1 (Nat.le_refl _) [] _ 0 rfl rfl (by simp [maxLen])
  case round =>
    obtain ⟨k, at_, A, n, c, hk, hat, rfl, rfl, rfl, ⟨⟨ps, b, acc, hcome, hpl', hprev', hacc', ho⟩, hnx⟩⟩ := hrel
    have hpl := Lib.hid hpl'
    have hprev := Lib.hid hprev'
    have hacc := Lib.hid hacc'
    have hno : Hid (n = acc.length) := by have := ho.len; rw [nums_length] at this; exact this
    clear hprev' hacc'
    by_cases hlt : k < b2
    · have hatl : at_ < L.length := by
        rcases Nat.lt_or_ge at_ L.length with h | h
        · exact h
        · exfalso
          have := hcome.len h
          rw [hpl', HN0.out] at this
          omega
      obtain ⟨q1, _, q3, q4⟩ := hcome.at_ hatl
      obtain ⟨hcome', hd1, hd2⟩ := hcome.step hatl
      rw [LL.out] at hd2
      rw [hpl'] at q3 q4
      have PR := Lib.hid (fun j hj => prev_runes hcome j (by rw [hpl']; exact hj))
      obtain ⟨D1, D2, hD⟩ : ∃ D1 D2, Hid (dec (L.drop at_) = (D1, D2)) := ⟨_, _, rfl⟩
      rw [hD.out] at hcome' hd1 hd2 q3 q4
      simp only at hcome' hd1 hd2 q3 q4
      have HC2 := Lib.hid hcome'
      have hne : L.drop at_ ≠ [] := by intro h0; rw [List.drop_eq_nil_iff] at h0; omega
      have hdl : decodeL (L.drop at_) = (D1, D2) := by rw [← dec_of hne]; exact hD.out
      have HBD : Hid (bad (L.drop at_) ↔ (D1 = 65533 ∧ D2 = 1)) := by show _ ↔ _; unfold bad; rw [hdl]
      have HG : Hid (¬ (D1 = 65533 ∧ D2 = 1) → toV R b (L.drop at_) = (L.drop at_).take D2 ++ toV R false (L.drop (at_ + D2))) := by
        intro h
        have := toV_good R b _ hne (fun hb => h (HBD.out.1 hb))
        rw [hdl, List.drop_drop] at this
        exact this
      have HBB : Hid (D1 = 65533 ∧ D2 = 1 → toV R b (L.drop at_) = (if b then [] else R) ++ toV R true (L.drop (at_ + 1))) := by
        intro h
        have := toV_bad R b _ hne (HBD.out.2 h)
        rw [List.drop_drop] at this
        exact this
      have SR : Hid (∃ g f, B2 = some ⟨g, f, none⟩ ∧ ∀ W, Nx w1 W → ∀ j, j < b2 → W.cell? ⟨g, f + j, none⟩ = some (.int .i32 ((runesL L).getD j 0))) := by
        obtain ⟨g, f, h3, h4, h5⟩ := sR.open_ (by omega)
        exact ⟨g, f, h3, fun W h j hj => (h.cell (p := ⟨g, f + j, none⟩) h4).trans (h5 j hj)⟩
      have SS : Hid (∃ g f, B3 = some ⟨g, f, none⟩ ∧ ∀ W, Nx w1 W → ∀ j, j < b2 → W.cell? ⟨g, f + j, none⟩ = some (.int .i64 ((sizesL L).getD j 0))) := by
        obtain ⟨g, f, h3, h4, h5⟩ := sS.open_ (by omega)
        exact ⟨g, f, h3, fun W h j hj => (h.cell (p := ⟨g, f + j, none⟩) h4).trans (h5 j hj)⟩
      obtain ⟨gr, fr, rfl, cr'⟩ := SR.out
      obtain ⟨gs, fs, rfl, cs'⟩ := SS.out
      have CR := Lib.hid cr'
      have CS := Lib.hid cs'
      have r0 := cr' wr hnx k hlt
      have s0 := cs' wr hnx k hlt
      rw [q3] at r0
      rw [q4] at s0
      have SK : Hid (∀ W, Nx w1 W → W.cell? ⟨gs, fs + k, none⟩ = some (.int .i64 (D2 : Int))) := fun W h => by rw [cs' W h k hlt, q4]
      have k1 : (k : Int) < (b2 : Int) := by omega
      clear hcome hcome' SR SS cr' cs' q1 q3 q4 hne hdl hpl' sR sS hatl
      by_cases hw : D1 = 65533 ∧ D2 = 1
      · obtain ⟨w1', w2'⟩ := hw
        have z1 : ((D1 : Int) == 65533) = true := by simp; omega
        have z2 : ((D2 : Int) == 1) = true := by simp; omega
        have HW : Hid (wrongB (D1, D2) = true) := by show _ = _; unfold wrongB; simp [w1', w2']
        have hb1 := HBB.out ⟨w1', w2'⟩
        have h3 := hacc.out
        rw [hb1] at h3
        cases b with
        | false =>
          rw [if_neg (by simp)] at h3
          have hpl2 : n + rep.size ≤ 140737488355328 := by have := part_len h3 h2; rw [LR.out] at this; have := hno.out; omega
          have HN : Hid ((acc ++ R) ++ toV R true (L.drop (at_ + D2)) = T) := by show _ = _; rw [List.append_assoc, w2']; exact h3
          rcases hprev.out with ⟨hk0, _⟩ | ⟨hk0, hbw⟩
          · have zk : ((k : Int) == 0) = true := by simp; omega
            clear w1' w2' hb1 h3 hk0
            go_wp2_with (at_builtin; have _t := ho; go_must (refine wpList_append_str _ rfl (.tmp 69) (.tmp 70) _ _ rfl w1.heap.size 5 i0 Tryd.underlying22 Tryd.underlying9 hi0 hz0 hz1 hz2 A n c acc rfl ho rep rfl hpl2 hnx.size ?_); intro B4 m4 d4 w3 r2 hg2; have hx3 := hnx.app ho hg2; rw [hR.out] at r2; have s3 := SK.out w3 hx3; clear _t hg2)
            go_roundw
            case rel =>
              refine ⟨k + 1, at_ + D2, _, _, _, by omega, by omega, by go_num, by go_num, rfl, ⟨_, true, (acc ++ R), HC2.out, by rw [List.length_append, hpl.out]; rfl, Or.inr ⟨by omega, ?_⟩, HN.out, r2⟩, hx3⟩
              rw [Nat.add_sub_cancel, List.getD, List.getElem?_append_right (by rw [hpl.out]; exact Nat.le_refl _), hpl.out, Nat.sub_self]
              exact HW.out.symm
            case measure => simp [RowKit.intOf]; omega
          · have zk : ((k : Int) == 0) = false := by simp; omega
            obtain ⟨j, hjk⟩ : ∃ j, k = j + 1 := ⟨k - 1, by omega⟩
            obtain ⟨p1, p2⟩ := PR.out j (by omega)
            have r1 := CR.out wr hnx j (by omega)
            have s1 := CS.out wr hnx j (by omega)
            rw [p1] at r1
            rw [p2] at s1
            rw [show k - 1 = j by omega] at hbw
            obtain ⟨E1, E2, hE⟩ : ∃ E1 E2, Hid (ps.getD j (0, 0) = (E1, E2)) := ⟨_, _, rfl⟩
            rw [hE.out] at r1 s1 hbw
            simp only at r1 s1
            have HWE : Hid (¬ (E1 = 65533 ∧ E2 = 1)) := by
              intro h
              unfold wrongB at hbw
              simp [h.1, h.2] at hbw
            have j1 : (j : Int) < (b2 : Int) := by omega
            have HJ : ((j + 1 : Nat) : Int) - 1 = (j : Int) := by omega
            subst hjk
            by_cases hE1 : E1 = 65533
            · have y1 : ((E1 : Int) != 65533) = false := by simp; omega
              have y2 : ((E2 : Int) != 1) = true := by have := HWE.out; simp; omega
              clear w1' w2' hb1 h3 hk0 hbw p1 p2 hE1
              go_wp2_with (at_builtin; have _t := ho; go_must (refine wpList_append_str _ rfl (.tmp 69) (.tmp 70) _ _ rfl w1.heap.size 5 i0 Tryd.underlying22 Tryd.underlying9 hi0 hz0 hz1 hz2 A n c acc rfl ho rep rfl hpl2 hnx.size ?_); intro B4 m4 d4 w3 r2 hg2; have hx3 := hnx.app ho hg2; rw [hR.out] at r2; have s3 := SK.out w3 hx3; clear _t hg2)
              go_roundw
              case rel =>
                refine ⟨j + 1 + 1, at_ + D2, _, _, _, by omega, by omega, by go_num, by go_num, rfl, ⟨_, true, acc ++ R, HC2.out, by rw [List.length_append, hpl.out]; rfl, Or.inr ⟨by omega, ?_⟩, HN.out, r2⟩, hx3⟩
                rw [Nat.add_sub_cancel, List.getD, List.getElem?_append_right (by rw [hpl.out]; exact Nat.le_refl _), hpl.out, Nat.sub_self]
                exact HW.out.symm
              case measure => simp [RowKit.intOf]; omega
            · have y1 : ((E1 : Int) != 65533) = true := by simp; omega
              clear w1' w2' hb1 h3 hk0 hbw p1 p2 hE1
              go_wp2_with (at_builtin; have _t := ho; go_must (refine wpList_append_str _ rfl (.tmp 69) (.tmp 70) _ _ rfl w1.heap.size 5 i0 Tryd.underlying22 Tryd.underlying9 hi0 hz0 hz1 hz2 A n c acc rfl ho rep rfl hpl2 hnx.size ?_); intro B4 m4 d4 w3 r2 hg2; have hx3 := hnx.app ho hg2; rw [hR.out] at r2; have s3 := SK.out w3 hx3; clear _t hg2)
              go_roundw
              case rel =>
                refine ⟨j + 1 + 1, at_ + D2, _, _, _, by omega, by omega, by go_num, by go_num, rfl, ⟨_, true, acc ++ R, HC2.out, by rw [List.length_append, hpl.out]; rfl, Or.inr ⟨by omega, ?_⟩, HN.out, r2⟩, hx3⟩
                rw [Nat.add_sub_cancel, List.getD, List.getElem?_append_right (by rw [hpl.out]; exact Nat.le_refl _), hpl.out, Nat.sub_self]
                exact HW.out.symm
              case measure => simp [RowKit.intOf]; omega
        | true =>
          rw [if_pos rfl, List.nil_append] at h3
          have HN : Hid (acc ++ toV R true (L.drop (at_ + D2)) = T) := by show _ = _; rw [w2']; exact h3
          rcases hprev.out with ⟨_, hb0⟩ | ⟨hk0, hbw⟩
          · cases hb0
          · have zk : ((k : Int) == 0) = false := by simp; omega
            obtain ⟨j, hjk⟩ : ∃ j, k = j + 1 := ⟨k - 1, by omega⟩
            obtain ⟨p1, p2⟩ := PR.out j (by omega)
            have r1 := CR.out wr hnx j (by omega)
            have s1 := CS.out wr hnx j (by omega)
            rw [p1] at r1
            rw [p2] at s1
            rw [show k - 1 = j by omega] at hbw
            obtain ⟨E1, E2, hE⟩ : ∃ E1 E2, Hid (ps.getD j (0, 0) = (E1, E2)) := ⟨_, _, rfl⟩
            rw [hE.out] at r1 s1 hbw
            simp only at r1 s1
            have hE12 : E1 = 65533 ∧ E2 = 1 := by
              unfold wrongB at hbw
              have := hbw.symm
              rw [Bool.and_eq_true, beq_iff_eq, beq_iff_eq] at this
              exact this
            have y1 : ((E1 : Int) != 65533) = false := by have := hE12.1; simp; omega
            have y2 : ((E2 : Int) != 1) = false := by have := hE12.2; simp; omega
            have j1 : (j : Int) < (b2 : Int) := by omega
            subst hjk
            clear w1' w2' hb1 h3 hk0 hbw p1 p2 hE12
            go_wp2_with fail
            go_roundw
            case rel =>
              refine ⟨j + 1 + 1, at_ + D2, _, _, _, by omega, by omega, by go_num, by go_num, rfl, ⟨_, true, acc, HC2.out, by rw [List.length_append, hpl.out]; rfl, Or.inr ⟨by omega, ?_⟩, HN.out, ho⟩, hnx⟩
              rw [Nat.add_sub_cancel, List.getD, List.getElem?_append_right (by rw [hpl.out]; exact Nat.le_refl _), hpl.out, Nat.sub_self]
              exact HW.out.symm
            case measure => simp [RowKit.intOf]; omega
      · have HW : Hid (wrongB (D1, D2) = false) := by
          show _ = _
          unfold wrongB
          cases h : (D1 == 65533 && D2 == 1) with
          | false => rfl
          | true => rw [Bool.and_eq_true, beq_iff_eq, beq_iff_eq] at h; exact absurd h hw
        have hg1 := HG.out hw
        have h3 := hacc.out
        rw [hg1] at h3
        obtain ⟨Q, hQ⟩ : ∃ Q, Hid (s.extract at_ (at_ + D2) = Q) := ⟨_, rfl⟩
        have hQd : Hid (Q.data.toList = (L.drop at_).take D2) := by show _ = _; rw [← hQ.out, mid_data, hL.out]
        have hQs := size_list Q
        rw [hQd.out] at hQs
        have hpl2 : n + Q.size ≤ 140737488355328 := by have := part_len h3 h2; rw [hQs] at this; have := hno.out; omega
        have hml := fun W => cutS_mid s at_ D2 (by omega) W
        rw [hQ.out] at hml
        have HN : Hid ((acc ++ (L.drop at_).take D2) ++ toV R false (L.drop (at_ + D2)) = T) := by show _ = _; rw [List.append_assoc]; exact h3
        by_cases hw1 : D1 = 65533
        · have z1 : ((D1 : Int) == 65533) = true := by simp; omega
          have z2 : ((D2 : Int) == 1) = false := by simp; omega
          clear hw hw1 hg1 h3 hQs
          go_wp2_with (at_builtin; have _t := ho; go_must (refine wpList_append_str _ rfl (.tmp 40) (.tmp 49) _ _ rfl w1.heap.size 5 i0 Tryd.underlying22 Tryd.underlying9 hi0 hz0 hz1 hz2 A n c acc rfl ho Q rfl hpl2 hnx.size ?_); intro B4 m4 d4 w3 r2 hg2; have hx3 := hnx.app ho hg2; rw [hQd.out] at r2; have s3 := SK.out w3 hx3; clear _t hg2)
          go_roundw
          case rel =>
            refine ⟨k + 1, at_ + D2, _, _, _, by omega, by omega, by go_num, by go_num, rfl, ⟨_, false, (acc ++ (L.drop at_).take D2), HC2.out, by rw [List.length_append, hpl.out]; rfl, Or.inr ⟨by omega, ?_⟩, HN.out, r2⟩, hx3⟩
            rw [Nat.add_sub_cancel, List.getD, List.getElem?_append_right (by rw [hpl.out]; exact Nat.le_refl _), hpl.out, Nat.sub_self]
            exact HW.out.symm
          case measure => simp [RowKit.intOf]; omega
        · have z1 : ((D1 : Int) == 65533) = false := by simp; omega
          clear hw hw1 hg1 h3 hQs
          go_wp2_with (at_builtin; have _t := ho; go_must (refine wpList_append_str _ rfl (.tmp 40) (.tmp 49) _ _ rfl w1.heap.size 5 i0 Tryd.underlying22 Tryd.underlying9 hi0 hz0 hz1 hz2 A n c acc rfl ho Q rfl hpl2 hnx.size ?_); intro B4 m4 d4 w3 r2 hg2; have hx3 := hnx.app ho hg2; rw [hQd.out] at r2; have s3 := SK.out w3 hx3; clear _t hg2)
          go_roundw
          case rel =>
            refine ⟨k + 1, at_ + D2, _, _, _, by omega, by omega, by go_num, by go_num, rfl, ⟨_, false, (acc ++ (L.drop at_).take D2), HC2.out, by rw [List.length_append, hpl.out]; rfl, Or.inr ⟨by omega, ?_⟩, HN.out, r2⟩, hx3⟩
            rw [Nat.add_sub_cancel, List.getD, List.getElem?_append_right (by rw [hpl.out]; exact Nat.le_refl _), hpl.out, Nat.sub_self]
            exact HW.out.symm
          case measure => simp [RowKit.intOf]; omega
    · have hfin : Hid (acc = T) := by
        show _ = _
        have hkl : ps.length = cnt L := by rw [hpl', HN0.out]; omega
        have h5 := hcome.2.2.1
        have h6 : steps (L.drop at_) = [] := by
          have h7 := congrArg List.length h5
          rw [List.length_append] at h7
          have h8 : (steps L).length = cnt L := rfl
          exact List.eq_nil_of_length_eq_zero (by omega)
        have h9 : L.drop at_ = [] := by
          rcases Decidable.em (L.drop at_ = []) with h | h
          · exact h
          · rw [steps_cons _ h] at h6; cases h6
        have h3 := hacc.out
        rw [h9, toV_nil, List.append_nil] at h3
        exact h3
      have tb := run_bytes_str (P := Tryd.prog) 22 9 5 Tryd.underlying22 Tryd.underlying5 Tryd.underlying9 wr A n c acc ho.sl
      rw [hfin.out] at tb
      clear hcome hpl'
      go_wp2_with fail
      go_ret
      exact ⟨rfl, y1.trans hnx⟩
end Go.Proofs.YtcgpnmlemjldaaaDoor
