/- Contract: strings.ToValidUTF8, by strings and through impl: the pieces that are encodings, with one replacement for each run of bytes that are none. -/
import Derived.Test.YtpijokiagkhdeaaDoorDecodeU
import Derived.Test.YtpijokiagkhdeaaDoorShelfB
import Derived.Test.YtpijokiagkhdeaaDoorShelfC
import Derived.Test.YtpijokiagkhdeaaDoorPlainG
import Derived.Lib.ValidAsc
namespace Go.Proofs.YtpijokiagkhdeaaDoor
open Go.RowKit Go.Lib
set_option linter.unusedVariables false
theorem xtra {ρ : Go.Shelf.Ren} (h5 : ρ.t 5 = 5) (h72 : ρ.t 72 = 61) : Builder.Extra Tryd.prog ρ := by
  refine { sizeBuilder := ?_, liesBuilder := ?_, t5 := ?_, a5 := ?_, z5 := ?_, v5 := ?_, infoByte := ?_, cellsByte := ?_, sizeByte := ?_, neB5 := ?_ }
  all_goals (try rw [h72])
  all_goals (try rw [h5])
  · kernel_rfl
  · kernel_rfl
  · exact Tryd.underlying5
  · exact Tryd.isAgg5
  · exact Tryd.sizeOf5
  · exact Tryd.zeroValue5
  · kernel_rfl
  · kernel_rfl
  · kernel_rfl
  · decide
/-! ### The builder's methods -/
def Blt (B : Nat) (l : List UInt8) (w : World) : Prop := Lib.IsBuilderF 61 5 B B (Lib.byteCells l) w
theorem b_grow (n : Nat) (w : World) (B : Nat) (hbk : w.heap[B]? = some (.cells #[.pointer none, .slice none 0 0] 61 (0, 0))) (hBw : B ≤ w.heap.size) (hn : n ≤ 281474976710656) :
    Calls Tryd.prog 56 #[.pointer (some ⟨B, 0, none⟩), .int .i64 (n : Int)] w fun e w' => e = .returned (.tuple #[]) ∧ Blt B [] w' ∧ Below B w w' ∧ ∃ p cap, w'.cell? ⟨B, 1, none⟩ = some (.slice p 0 cap) ∧ n ≤ cap := by
  have h := Any.Builder_Grow_fresh_cap Tryd.lays165 (xtra rfl rfl) B B n w (Nat.le_refl _) hbk hBw hn
  refine Calls.mono h ?_
  rintro e w' ⟨rfl, ⟨h1, h2⟩, h3⟩
  exact ⟨rfl, Lib.IsBuilderF.of (Or.inr h1), h2, h3⟩
theorem b_writeS (s : ByteArray) (l : List UInt8) (w : World) (B : Nat) (h : Blt B l w) (hlen : l.length + s.size ≤ 140737488355328) (hBw : B ≤ w.heap.size) :
    Calls Tryd.prog 57 #[.pointer (some ⟨B, 0, none⟩), .string s] w fun e w' => e = .returned (.tuple #[.int .i64 s.size, .nilIface]) ∧ Blt B (l ++ s.data.toList) w' ∧ Below B w w' ∧ ∀ v0, w.cell? ⟨B, 1, none⟩ = some v0 → ∃ v1, w'.cell? ⟨B, 1, none⟩ = some v1 ∧ v0.capOf ≤ v1.capOf := by
  have h1 := Any.Builder_WriteString_kc Tryd.lays166 (xtra rfl rfl) B B (Lib.byteCells l) s w h (by rw [Lib.byteCells_length]; exact hlen) hBw
  refine Calls.mono h1 ?_
  rintro e w' ⟨rfl, ⟨h2, h3, _⟩, h4⟩
  refine ⟨rfl, ?_, h3, h4⟩
  unfold Blt
  rw [Lib.byteCells_append, ← Lib.strCells_eq]
  exact Or.inr h2
theorem b_writeB (c : UInt8) (l : List UInt8) (w : World) (B : Nat) (h : Blt B l w) (hlen : l.length + 1 ≤ 140737488355328) (hBw : B ≤ w.heap.size) :
    Calls Tryd.prog 59 #[.pointer (some ⟨B, 0, none⟩), .int .u8 (c.toNat : Int)] w fun e w' => e = .returned .nilIface ∧ Blt B (l ++ [c]) w' ∧ Below B w w' := by
  have h1 := Any.Builder_WriteByte_k Tryd.lays167 (xtra rfl rfl) B B (Lib.byteCells l) (c.toNat : Int) w h (by rw [Lib.byteCells_length]; exact hlen) hBw
  refine Calls.mono h1 ?_
  rintro e w' ⟨rfl, h2, h3, _⟩
  refine ⟨rfl, ?_, h3⟩
  unfold Blt
  rw [Lib.byteCells_append]
  exact Or.inr h2
theorem b_string (l : List UInt8) (w : World) (B : Nat) (h : Blt B l w) (hBw : B ≤ w.heap.size) :
    Calls Tryd.prog 60 #[.pointer (some ⟨B, 0, none⟩)] w fun e w' => e = .returned (.string (strOf l)) ∧ Below B w w' := by
  have h1 := Any.Builder_String_any_k Tryd.lays169 (xtra rfl rfl) B B l w h hBw
  refine Calls.mono h1 ?_
  rintro e w' ⟨rfl, _, h3, _⟩
  exact ⟨rfl, h3⟩
theorem b_cap (w : World) (B : Nat) (p : Option Addr) (n cap : Nat) (c1 : w.cell? ⟨B, 1, none⟩ = some (.slice p n cap)) :
    Calls Tryd.prog 58 #[.pointer (some ⟨B, 0, none⟩)] w fun e w' => e = .returned (.int .i64 cap) ∧ w' = w :=
  Any.Builder_Cap_cell Tryd.lays270 B p n cap w c1
/-! ### Strings, cut -/
theorem cutS_from (s : ByteArray) (i : Nat) (h : i ≤ s.size) (W : World) : (Instr.slice 9 (.string s) (some (.int .i64 (i : Int))) none none).run Tryd.prog W = .ok (.string (s.extract i s.size)) W := by
  rw [run_slice_string_l W 9 s Tryd.underlying9 .i64 (i : Int) (by omega) (by omega)]
  simp
theorem cutS_to (s : ByteArray) (i : Nat) (h : i ≤ s.size) (W : World) : (Instr.slice 9 (.string s) none (some (.int .i64 (i : Int))) none).run Tryd.prog W = .ok (.string (s.extract 0 i)) W := by
  rw [run_slice_string_h W 9 s Tryd.underlying9 .i64 (i : Int) (by omega) (by omega)]
  simp
theorem cutS_mid (s : ByteArray) (i k : Nat) (h : i + k ≤ s.size) (W : World) : (Instr.slice 9 (.string s) (some (.int .i64 (i : Int))) (some (.int .i64 ((i : Int) + (k : Int)))) none).run Tryd.prog W = .ok (.string (s.extract i (i + k))) W := by
  rw [run_slice_string W 9 s .i64 .i64 (i : Int) ((i : Int) + (k : Int)) Tryd.underlying9 (by omega) (by omega) (by omega)]
  rw [show ((i : Int) + (k : Int)).toNat = i + k by omega]
  simp
theorem at_string (s : ByteArray) (i : Nat) (h : i < s.size) (W : World) : (Instr.index 9 (.string s) (.int .i64 (i : Int))).run Tryd.prog W = .ok (.int .u8 ((s.data.toList.getD i 0).toNat : Int)) W := by
  rw [run_index_string W 9 s .i64 (i : Int) Tryd.underlying9, dif_pos ⟨by omega, by omega⟩]
  have h2 : i < s.data.toList.length := by rw [size_list]; exact h
  have : s[((i : Nat) : Int).toNat]'(by simpa using h) = s.data.toList.getD i 0 := by
    simp only [Int.toNat_natCast, List.getD, List.getElem?_eq_getElem h2, Option.getD_some, Array.getElem_toList]
    rfl
  rw [this]
theorem mid_data (s : ByteArray) (i k : Nat) : (s.extract i (i + k)).data.toList = (s.data.toList.drop i).take k := by
  rw [Lib.extract_data, Nat.add_sub_cancel_left]
theorem to_data (s : ByteArray) (i : Nat) : (s.extract 0 i).data.toList = s.data.toList.take i := by
  have := mid_data s 0 i
  rwa [Nat.zero_add, List.drop_zero] at this
theorem nx_heap {a b : World} (h : Nx a b) {g : Nat} (hg : g < a.heap.size) : b.heap[g]? = a.heap[g]? := h.out.block g hg
theorem take_more {l : List UInt8} {i : Nat} (hv : validB (l.take i) = true) (hi : i < l.length) (hb : ¬ bad (l.drop i)) : validB (l.take (i + (decodeL (l.drop i)).2)) = true := by
  have hne : l.drop i ≠ [] := by intro h0; rw [List.drop_eq_nil_iff] at h0; omega
  rw [List.take_add, valid_front hv, ← encode_decode _ hne hb]
  have := validB_enc (decodeL_good (l.drop i)) []
  rwa [List.append_nil, validB_nil] at this
/-- One step of the second loop. -/
theorem toV_ascii (rep : List UInt8) (inv : Bool) (l : List UInt8) (i : Nat) (hi : i < l.length) (h : (l.getD i 0).toNat < 128) : toV rep inv (l.drop i) = [l.getD i 0] ++ toV rep false (l.drop (i + 1)) := by
  have h0 : l.drop i = l.getD i 0 :: l.drop (i + 1) := by
    rw [List.drop_eq_getElem_cons hi]
    simp [List.getD, List.getElem?_eq_getElem hi]
  have hd := dec_ascii (l.getD i 0) (l.drop (i + 1)) h
  have hb : ¬ bad (l.drop i) := by
    unfold bad
    rw [h0, hd]
    simp only
    omega
  rw [toV_good rep inv _ (by rw [h0]; simp) hb, h0, hd]
  simp
theorem toV_stray (rep : List UInt8) (inv : Bool) (l : List UInt8) (i : Nat) (hi : i < l.length) (h : 128 ≤ (l.getD i 0).toNat) (h1 : (dec (l.drop i)).2 = 1) : toV rep inv (l.drop i) = (if inv then [] else rep) ++ toV rep true (l.drop (i + 1)) := by
  have hne : l.drop i ≠ [] := by intro h0; rw [List.drop_eq_nil_iff] at h0; omega
  have hg : (l.drop i).getD 0 0 = l.getD i 0 := by simp [List.getD]
  have hr := one_bad hne h1 (by rw [hg]; exact h)
  rw [dec_of hne] at h1 hr
  rw [toV_bad rep inv _ hne ⟨hr, h1⟩, List.drop_drop]
theorem toV_piece (rep : List UInt8) (inv : Bool) (l : List UInt8) (i : Nat) (hi : i < l.length) (h1 : (dec (l.drop i)).2 ≠ 1) : toV rep inv (l.drop i) = (l.drop i).take (dec (l.drop i)).2 ++ toV rep false (l.drop (i + (dec (l.drop i)).2)) := by
  have hne : l.drop i ≠ [] := by intro h0; rw [List.drop_eq_nil_iff] at h0; omega
  rw [dec_of hne] at h1 ⊢
  rw [toV_good rep inv _ hne (fun hb => h1 hb.2), List.drop_drop]
theorem part_len {a b c t : List UInt8} (h : a ++ (b ++ c) = t) {n : Nat} (ht : t.length ≤ n) : a.length + b.length ≤ n := by
  have := congrArg List.length h
  rw [List.length_append, List.length_append] at this
  omega
theorem iterPos_atV {w : World} {g : Nat} {s : ByteArray} {p : Nat} (h : w.heap[g]? = some (.stringIter s p)) : w.iterPos g = p := by simp [World.iterPos, h]
theorem blt_at {T e : TypeId} {B b : Nat} {p : Value} {bs : List Value} {wr w5 : World} (h : Lib.BuilderAtF T e B b p bs wr) (x : Nx wr w5) : Lib.BuilderAtF T e B b p bs w5 := by
  obtain ⟨hB, v, hbk, hown, hne⟩ := h
  refine ⟨hB, v, (nx_heap x (Array.getElem?_eq_some_iff.1 hbk).1).trans hbk, ⟨hown.1, ?_⟩, hne⟩
  rcases hown.2 with h | ⟨g, cap, cur, fz, h1, h2, h3, r⟩
  · exact .inl h
  · exact .inr ⟨g, cap, cur, fz, h1, h2, (nx_heap x (Array.getElem?_eq_some_iff.1 h3).1).trans h3, r⟩
theorem blt_next {a wr w5 : World} {acc : List UInt8} (h : Blt a.heap.size acc wr) (y : Nx a wr) (x : Nx wr w5) : Blt a.heap.size acc w5 := by
  rcases h with h | h
  · exact Or.inl (blt_at h x)
  · exact Or.inr (blt_at h x)
set_option maxRecDepth 100000 in
set_option maxHeartbeats 4000000 in
theorem toValidUTF8 (s rep : ByteArray) (w : World) (hT : Tabs w) (h1 : s.size + rep.size ≤ 140737488355328) (h2' : (toV rep.data.toList false s.data.toList).length ≤ 140737488355328) :
    Calls Tryd.prog 40 #[.string s, .string rep] w fun e w' => e = .returned (.string (strOf (toV rep.data.toList false s.data.toList))) ∧ Nx w w' := by
  obtain ⟨R, hR⟩ : ∃ R, Hid (rep.data.toList = R) := ⟨_, rfl⟩
  have hRd := hR
  have LR : Hid (R.length = rep.size) := by show _ = _; rw [← hR.out, size_list]
  obtain ⟨T, hTT⟩ : ∃ T, Hid (toV R false s.data.toList = T) := ⟨_, rfl⟩
  rw [hR.out] at h2' ⊢
  rw [hTT.out] at h2' ⊢
  have h2 := h2'
  clear h2'
  have LX := Lib.hid (size_list s)
  go_enter Tryd.func40, Tryd.ntmps40
  go_wp2
  go_loopw [0] (fun v wr => ∃ pos : Nat, pos ≤ s.size ∧ v = .string s ∧ wr.heap[w.heap.size]? = some (.cells #[.pointer none, .slice none 0 0] 61 (0, 0)) ∧ wr.heap[w.heap.size + 1]? = some (.stringIter s pos) ∧ Nx w wr ∧ Hid (validB (s.data.toList.take pos) = true)) (fun _ wr => s.size - wr.iterPos (w.heap.size + 1))
  case atStart =>
    refine ⟨0, Nat.zero_le _, rfl, ?_, ?_, ((Nx.refl _).alloc _).iter _ _, rfl⟩
    · exact (Below.heap_alloc (w.alloc _) _ w.heap.size (by simp)).trans (heap_alloc_new w _)
    · have := World.iter_heap (w.alloc (.cells #[.pointer none, .slice none 0 0] 61)) s 0
      simpa using this
  case round =>
    obtain ⟨k, hk, rfl, hbk, hit, hnx, hval⟩ := hrel
    have HP := Lib.hid (iterPos_atV hit)
    have hgs : w.heap.size + 1 < wr.heap.size := (Array.getElem?_eq_some_iff.1 hit).1
    by_cases hlt : k < s.size
    · have hnext := fun ty => run_next_any_at (P := Tryd.prog) wr (w.heap.size + 1) s k ty hit hlt
      have hkl : k < s.data.toList.length := by rw [size_list]; exact hlt
      have hne : s.data.toList.drop k ≠ [] := by intro h; rw [List.drop_eq_nil_iff] at h; omega
      have hdec : decodeL (s.data.toList.drop k) = Utf8.decode s k := decodeL_drop s k
      have hle := decodeL_le _ hne
      have hwd := decodeL_width (s.data.toList.drop k)
      rw [List.length_drop, size_list] at hle
      obtain ⟨D1, D2, hD⟩ : ∃ D1 D2, Utf8.decode s k = (D1, D2) := ⟨_, _, rfl⟩
      rw [hD] at hnext hdec
      rw [hdec] at hle hwd
      simp only at hnext hle hwd
      have HD := Lib.hid hdec
      have HBD : Hid (bad (s.data.toList.drop k) ↔ (D1 = 65533 ∧ D2 = 1)) := by show _ ↔ _; unfold bad; rw [hdec]
      have HV2 : Hid (¬ (D1 = 65533 ∧ D2 = 1) → validB (s.data.toList.take (k + D2)) = true) := by
        intro h
        have := take_more hval.out hkl (fun hb => h (HBD.out.1 hb))
        rw [hdec] at this
        exact this
      have hb1 : (wr.iterAt (w.heap.size + 1) s (k + D2)).heap[w.heap.size]? = some (.cells #[.pointer none, .slice none 0 0] 61 (0, 0)) := by rw [iterAt_other _ _ _ _ _ (by omega)]; exact hbk
      have hi1 := iterAt_heap wr (w.heap.size + 1) s k (k + D2) hit
      have hx1 : Nx w (wr.iterAt (w.heap.size + 1) s (k + D2)) := below_iterAt hnx (by omega) s _
      have hs1 : w.heap.size + 1 < (wr.iterAt (w.heap.size + 1) s (k + D2)).heap.size := (Array.getElem?_eq_some_iff.1 hi1).1
      have HB1 := Lib.hid hb1
      have HI1 := Lib.hid hi1
      have HIT := Lib.hid hit
      have HPP := Lib.hid (iterPos_atV hi1)
      clear hb1 hi1 hit hbk hdec hD
      by_cases hc : D1 = 65533
      · have zc : ((D1 : Int) != 65533) = false := by simp; omega
        obtain ⟨Y, hY⟩ : ∃ Y, Hid (s.extract k s.size = Y) := ⟨_, rfl⟩
        have hYd : Hid (Y.data.toList = s.data.toList.drop k) := by show _ = _; rw [← hY.out, Lib.ext_list]
        have hYs : Y.size = s.size - k := by rw [← hY.out, Lib.ext_size]
        have hsl := fun W => cutS_from s k hk W
        rw [hY.out] at hsl
        have cd := Lib.hid fun W (h : Tabs W) => utf8_decodeS Y W h
        rw [hYd.out, dec_of hne, HD.out] at cd
        by_cases hw1 : D2 = 1
        · have zw : ((D2 : Int) == 1) = true := by simp; omega
          have hbad : bad (s.data.toList.drop k) := HBD.out.2 ⟨hc, hw1⟩
          have TG : Hid (s.data.toList.take k ++ toV R false (Y.data.toList.drop 0) = T) := by
            show _ = _
            rw [List.drop_zero, hYd.out, ← toV_front R hval.out, List.take_append_drop, hTT.out]
          obtain ⟨U, hU⟩ : ∃ U, Hid (s.extract 0 k = U) := ⟨_, rfl⟩
          have hUd : Hid (U.data.toList = s.data.toList.take k) := by show _ = _; rw [← hU.out, to_data]
          have hUs : U.size ≤ k := by rw [← size_list, hUd.out, List.length_take]; omega
          have hml := fun W => cutS_to s k hk W
          rw [hU.out] at hml
          have hsum : Hid ((s.size : Int) + (rep.size : Int) = ((s.size + rep.size : Nat) : Int)) := by show _ = _; omega
          clear hbad hne hc hw1
          go_wp2_with fail
          refine (cd.out _ (hT.next hx1)).mono ?_
          rintro e w2 ⟨rfl, x2⟩
          have hb2 := (nx_heap x2 (show w.heap.size < _ by omega)).trans HB1.out
          have y2 := hx1.trans x2
          have cg := Lib.hid (b_grow (s.size + rep.size) w2 w.heap.size hb2 y2.size (by omega))
          clear hb2 hnext
          rw [← hsum.out] at cg
          go_wp2_with fail
          refine cg.out.mono ?_
          rintro e w3 ⟨rfl, o3, z3, ⟨gp, gc, gcell, gle⟩⟩
          have y3 : Nx w w3 := Below.trans y2 z3
          have GC := Lib.hid gcell
          clear gcell cg hsum
          go_wp2_with fail
          refine (b_writeS U [] _ w.heap.size o3 (by simp; omega) y3.size).mono ?_
          rw [hUd.out, List.nil_append]
          rintro e w4 ⟨rfl, o4, z4, hcap⟩
          have y4 : Nx w w4 := Below.trans y3 z4
          obtain ⟨v1, hv1, hv1c⟩ := hcap _ GC.out
          obtain ⟨p4, n4, c4, rfl, hc4⟩ : ∃ p n c, v1 = .slice p n c ∧ 1 ≤ c := by
            have h5 : 1 ≤ v1.capOf := by have : (Value.slice gp 0 gc).capOf = gc := rfl; omega
            cases v1 <;> simp [Value.capOf] at h5
            exact ⟨_, _, _, rfl, h5⟩
          have HV := Lib.hid hv1
          have cc := Lib.hid (b_cap w4 w.heap.size p4 n4 c4 hv1)
          have z4c : ((c4 : Int) == 0) = false := by simp; omega
          clear hv1 hv1c hcap o3 z3 z4 hml
          go_wp2_with fail
          refine cc.out.mono ?_
          rintro e w' ⟨rfl, rfl⟩
          clear cc
          go_wp2_with fail
          go_loopw [10, 11] (fun v x wr => ∃ (i : Nat) (inv : Bool) (acc : List UInt8), i ≤ Y.size ∧ v = .bool inv ∧ x = .int .i64 i ∧ Blt w.heap.size acc wr ∧ Nx w wr ∧ Hid (acc ++ toV R inv (Y.data.toList.drop i) = T)) (fun _ x _ => Y.size - (RowKit.intOf x).toNat)
          case atStart => exact ⟨0, false, _, Nat.zero_le _, rfl, rfl, o4, y4, TG⟩
          case round =>
            clear o4 y4 TG
            obtain ⟨i, inv, acc, hi, rfl, rfl, ho, y, hacc⟩ := hrel
            by_cases hlt : i < Y.size
            · have hil : i < Y.data.toList.length := by rw [size_list]; exact hlt
              obtain ⟨c, hc⟩ : ∃ c, Hid (Y.data.toList.getD i 0 = c) := ⟨_, rfl⟩
              have hix := fun W => at_string Y i hlt W
              rw [hc.out] at hix
              have c256 := c.toNat_lt
              by_cases hasc : c.toNat < 128
              · have za : ((c.toNat : Nat) : Int) < 128 := by omega
                have hst := toV_ascii R inv Y.data.toList i hil (by rw [hc.out]; exact hasc)
                rw [hc.out] at hst
                have h3 := hacc.out
                rw [hst] at h3
                have hpl := part_len h3 h2
                have HN : Hid ((acc ++ [c]) ++ toV R false (Y.data.toList.drop (i + 1)) = T) := by show _ = _; rw [List.append_assoc]; exact h3
                clear hst h3 hasc hil
                go_wp2_with fail
                refine (b_writeB c acc _ w.heap.size ho (by simpa using hpl) y.size).mono ?_
                rintro e w5 ⟨rfl, o5, z5⟩
                go_wp2_with fail
                go_roundw
                case rel => exact ⟨i + 1, false, acc ++ [c], by omega, rfl, by go_num, o5, Below.trans y z5, HN⟩
                case measure => simp [RowKit.intOf]; omega
              · have za : decide (((c.toNat : Nat) : Int) < 128) = false := by simp; omega
                obtain ⟨Z, hZ⟩ : ∃ Z, Hid (Y.extract i Y.size = Z) := ⟨_, rfl⟩
                have hZd : Hid (Z.data.toList = Y.data.toList.drop i) := by show _ = _; rw [← hZ.out, Lib.ext_list]
                have hsl := fun W => cutS_from Y i hi W
                rw [hZ.out] at hsl
                obtain ⟨D1, hD1⟩ : ∃ D, Hid ((dec (Y.data.toList.drop i)).1 = D) := ⟨_, rfl⟩
                obtain ⟨K, hK⟩ : ∃ D, Hid ((dec (Y.data.toList.drop i)).2 = D) := ⟨_, rfl⟩
                have cd := Lib.hid fun W (h : Tabs W) => utf8_decodeS Z W h
                rw [hZd.out, hD1.out, hK.out] at cd
                by_cases hk1 : K = 1
                · have zk : ((K : Int) == 1) = true := by simp; omega
                  have hst := toV_stray R inv Y.data.toList i hil (by rw [hc.out]; omega) (by rw [hK.out]; exact hk1)
                  have h3 := hacc.out
                  rw [hst] at h3
                  cases inv with
                  | true =>
                    rw [if_pos rfl, List.nil_append] at h3
                    have HN := Lib.hid h3
                    clear hst h3 hasc hil hk1
                    go_wp2_with fail
                    refine (cd.out _ (hT.next y)).mono ?_
                    rintro e w5 ⟨rfl, x5⟩
                    have o5 := blt_next ho y x5
                    go_wp2_with fail
                    go_roundw
                    case rel => exact ⟨i + 1, true, acc, by omega, rfl, by go_num, o5, y.trans x5, HN⟩
                    case measure => simp [RowKit.intOf]; omega
                  | false =>
                    rw [if_neg (by simp)] at h3
                    have hpl := part_len h3 h2
                    have HN : Hid ((acc ++ R) ++ toV R true (Y.data.toList.drop (i + 1)) = T) := by show _ = _; rw [List.append_assoc]; exact h3
                    clear hst h3 hasc hil hk1
                    go_wp2_with fail
                    refine (cd.out _ (hT.next y)).mono ?_
                    rintro e w5 ⟨rfl, x5⟩
                    have o5 := blt_next ho y x5
                    have y5 := y.trans x5
                    go_wp2_with fail
                    refine (b_writeS rep acc _ w.heap.size o5 (by rw [← LR.out]; exact hpl) y5.size).mono ?_
                    rw [hRd.out]
                    rintro e w6 ⟨rfl, o6, z6, _⟩
                    go_wp2_with fail
                    go_roundw
                    case rel => exact ⟨i + 1, true, acc ++ R, by omega, rfl, by go_num, o6, Below.trans y5 z6, HN⟩
                    case measure => simp [RowKit.intOf]; omega
                · have zk : ((K : Int) == 1) = false := by simp; omega
                  have hb := dec_bounds (Y.data.toList.drop i)
                  rw [hK.out, List.length_drop, size_list] at hb
                  obtain ⟨_, k4, kn, k1, _⟩ := hb
                  have k1 := k1 (by intro h0; rw [List.drop_eq_nil_iff] at h0; omega)
                  have hst := toV_piece R inv Y.data.toList i hil (by rw [hK.out]; exact hk1)
                  rw [hK.out] at hst
                  have h3 := hacc.out
                  rw [hst] at h3
                  obtain ⟨Q, hQ⟩ : ∃ Q, Hid (Y.extract i (i + K) = Q) := ⟨_, rfl⟩
                  have hQd : Hid (Q.data.toList = (Y.data.toList.drop i).take K) := by show _ = _; rw [← hQ.out, mid_data]
                  have hQs := size_list Q
                  rw [hQd.out] at hQs
                  have hpl := part_len h3 h2
                  rw [hQs] at hpl
                  have hml := fun W => cutS_mid Y i K (by omega) W
                  rw [hQ.out] at hml
                  have HN : Hid ((acc ++ (Y.data.toList.drop i).take K) ++ toV R false (Y.data.toList.drop (i + K)) = T) := by show _ = _; rw [List.append_assoc]; exact h3
                  clear hst h3 hasc hil hk1 hQs
                  go_wp2_with fail
                  refine (cd.out _ (hT.next y)).mono ?_
                  rintro e w5 ⟨rfl, x5⟩
                  have o5 := blt_next ho y x5
                  have y5 := y.trans x5
                  go_wp2_with fail
                  refine (b_writeS Q acc _ w.heap.size o5 hpl y5.size).mono ?_
                  rw [hQd.out]
                  rintro e w6 ⟨rfl, o6, z6, _⟩
                  go_wp2_with fail
                  go_roundw
                  case rel => exact ⟨i + K, false, _, by omega, rfl, by go_num, o6, Below.trans y5 z6, HN⟩
                  case measure => simp [RowKit.intOf]; omega
            · have hfin : Hid (acc = T) := by
                show _ = _
                have h3 := hacc.out
                rw [List.drop_of_length_le (by rw [size_list]; omega), toV_nil, List.append_nil] at h3
                exact h3
              rw [hfin.out] at ho
              go_wp2_with fail
              refine (b_string T _ w.heap.size ho y.size).mono ?_
              rintro e w6 ⟨rfl, z6⟩
              go_wp2_with fail
              go_ret
              exact ⟨rfl, Below.trans y z6⟩
        · have zw : ((D2 : Int) == 1) = false := by simp; omega
          have HV3 := Lib.hid (HV2.out (fun h => hw1 h.2))
          clear hne hc hw1
          go_wp2_with fail
          refine (cd.out _ (hT.next hx1)).mono ?_
          rintro e w2 ⟨rfl, x2⟩
          have hb2 := Lib.hid ((nx_heap x2 (show w.heap.size < _ by omega)).trans HB1.out)
          have hi2 := Lib.hid ((nx_heap x2 hs1).trans HI1.out)
          clear hnext
          go_wp2_with fail
          go_roundw
          case rel => exact ⟨k + D2, by omega, rfl, hb2.out, hi2.out, hx1.trans x2, HV3⟩
          case measure => rw [iterPos_atV hi2.out, HP.out]; omega
      · have zc : ((D1 : Int) != 65533) = true := by simp; omega
        have HV3 := Lib.hid (HV2.out (fun h => hc h.1))
        clear hne hc
        go_wp2_with fail
        go_roundw
        case rel => exact ⟨k + D2, by omega, rfl, HB1.out, HI1.out, hx1, HV3⟩
        case measure => rw [HPP.out, HP.out]; omega
    · have hnext := fun ty => run_next_end_at (P := Tryd.prog) wr (w.heap.size + 1) s k ty hit hlt
      have hfin : Hid (s = strOf T) := by
        show _ = _
        have hv := hval.out
        rw [List.take_of_length_le (by rw [size_list]; omega)] at hv
        rw [← hTT.out, toV_valid R hv, strOf_list]
      have hcell : wr.cell? ⟨w.heap.size, 1, none⟩ = some (.slice none 0 0) := by rw [Lib.cell_of_heap hbk]; rfl
      have cc := Lib.hid (b_cap wr w.heap.size none 0 0 hcell)
      have HIT := Lib.hid hit
      clear hcell hit hbk
      go_wp2_with fail
      refine cc.out.mono ?_
      rintro e w' ⟨rfl, rfl⟩
      clear cc hnext
      go_wp2_with fail
      go_ret
      exact ⟨ret_string hfin.out, hnx⟩
set_option maxHeartbeats 400000 in
theorem toValid_any (s rep : ByteArray) (w : World) (hT : Tabs w) (h1 : s.size + rep.size ≤ 140737488355328) (h2 : (toV rep.data.toList false s.data.toList).length ≤ 140737488355328) :
    Calls Tryd.prog 15 #[.string s, .string rep] w fun e w' => e = .returned (.string (strOf (toV rep.data.toList false s.data.toList))) ∧ Nx w w' := by
  have cd := toValidUTF8 s rep w hT h1 h2
  obtain ⟨R, hR⟩ : ∃ R, strOf (toV rep.data.toList false s.data.toList) = R := ⟨_, rfl⟩
  rw [hR] at cd ⊢
  clear hR
  go_enter Tryd.func15, Tryd.ntmps15
  go_wp2_with (go_at_call 40; refine cd.mono ?_; rintro e w1 ⟨rfl, hn1⟩)
  go_ret
  exact ⟨rfl, hn1⟩
end Go.Proofs.YtpijokiagkhdeaaDoor
