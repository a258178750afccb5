/- Contracts: spec.Valid, spec.ValidString: no step is RuneError with one byte. -/
import Derived.Test.YtpijokiagkhdeaaDoorSteps
import Derived.Test.YtpijokiagkhdeaaDoorPlainC
namespace Go.Proofs.YtpijokiagkhdeaaDoor
open Go.RowKit Go.Lib
set_option linter.unusedVariables false
theorem runesL_getD (l : List UInt8) (k : Nat) (hk : k < (steps l).length) : (runesL l).getD k 0 = (((steps l)[k]'hk).1 : Int) := by
  simp [runesL, List.getD, List.getElem?_eq_getElem hk]
theorem sizesL_getD (l : List UInt8) (k : Nat) (hk : k < (steps l).length) : (sizesL l).getD k 0 = (((steps l)[k]'hk).2 : Int) := by
  simp [sizesL, List.getD, List.getElem?_eq_getElem hk]
theorem all_snoc (l : List (Nat × Nat)) (k : Nat) (hk : k < l.length) (h : (l.take k).all (fun p => !wrongB p) = true) (hw : wrongB (l[k]'hk) = false) : (l.take (k + 1)).all (fun p => !wrongB p) = true := by
  rw [List.take_succ_eq_append_getElem hk, List.all_append, h]
  simp [hw]
theorem all_not (l : List (Nat × Nat)) (k : Nat) (hk : k < l.length) (hw : wrongB (l[k]'hk) = true) : l.all (fun p => !wrongB p) = false := by
  rw [List.all_eq_false]
  exact ⟨_, List.getElem_mem hk, by simp [hw]⟩
set_option maxHeartbeats 1000000 in
theorem specValid_any (A : Option Addr) (n c : Nat) (l : List UInt8) (w : World) (hl : By w A n l) (hc : n ≤ c) (hn : n ≤ 17592186044416) : Calls Tryd.prog 51 #[.slice A n c] w fun e w' => e = .returned (.bool (validB l)) ∧ Nx w w' := by
  have hle := steps_len l
  rw [hl.len] at hle
  obtain ⟨V, hV⟩ : ∃ V, Hid (validB l = V) := ⟨_, rfl⟩
  rw [hV.out]
  go_enter Tryd.func51, Tryd.ntmps51
  go_wp2_with fail
  refine (steps_any _ _ _ l _ hl hc hn).mono ?_
  rintro e w1 ⟨A1, n1, c1, A2, n2, c2, A3, n3, c3, rfl, ho1, ho2, ho3, hn1⟩
  have e2 : Hid (n2 = (steps l).length) := by show _ = _; rw [ho2.len]; simp [runesL]
  have e3 : n3 = n2 := by rw [e2.out, ho3.len]; simp [sizesL]
  subst e3
  have hm : n3 ≤ n := by rw [e2.out]; exact hle
  have s2 := ho2.sl
  have s3 := ho3.sl
  clear ho1 ho2 ho3 hle
  go_wp2_with fail
  go_loop [6] (fun i => ∃ k : Nat, k ≤ n3 ∧ i = .int .i64 k ∧ Hid (((steps l).take k).all (fun p => !wrongB p) = true)) (fun i => n3 - (intOf i).toNat)
  case atStart => exact ⟨0, Nat.zero_le _, rfl, rfl⟩
  case round =>
    obtain ⟨k, hk, rfl, hall⟩ := hrel
    by_cases hlt : k < n3
    · obtain ⟨b, off, u, rfl, hb, q1, hu⟩ := s2.at_ hlt
      obtain ⟨b', off', v, rfl, hb', q2, hv⟩ := s3.at_ hlt
      have hks : k < (steps l).length := by rw [← e2.out]; exact hlt
      have hu' : Hid ((((steps l)[k]'hks).1 : Int) = u) := by show _ = _; rw [← hu.out, runesL_getD l k hks]
      have hv' : Hid ((((steps l)[k]'hks).2 : Int) = v) := by show _ = _; rw [← hv.out, sizesL_getD l k hks]
      by_cases h1 : u = 65533
      · by_cases h2 : v = 1
        · have hw : Hid (wrongB ((steps l)[k]'hks) = true) := by
            show _ = _
            have a1 := hu'.out; have a2 := hv'.out
            unfold wrongB
            rw [Bool.and_eq_true, beq_iff_eq, beq_iff_eq]
            omega
          have hf : Hid (V = false) := by show V = false; rw [← hV.out]; exact all_not _ k hks hw.out
          subst h1 h2
          go_wp2_with fail
          go_ret
          exact ⟨ret_bool hf.out.symm, hn1⟩
        · have hw : wrongB ((steps l)[k]'hks) = false := by
            have a2 := hv'.out
            unfold wrongB
            rw [Bool.and_eq_false_iff]
            right
            rw [beq_eq_false_iff_ne]
            omega
          have hs := Lib.hid (all_snoc _ k hks hall.out hw)
          have d2 : (v == 1) = false := by simpa using h2
          have d1 : (u == 65533) = true := by simpa using h1
          clear hw h1 h2
          go_wp2_with fail
          go_round
          case rel => exact ⟨k + 1, by omega, by go_num, hs⟩
          case measure => simp [intOf]; omega
      · have hw : wrongB ((steps l)[k]'hks) = false := by
          have a1 := hu'.out
          unfold wrongB
          rw [Bool.and_eq_false_iff]
          left
          rw [beq_eq_false_iff_ne]
          omega
        have hs := Lib.hid (all_snoc _ k hks hall.out hw)
        have d1 : (u == 65533) = false := by simpa using h1
        clear hw h1
        go_wp2_with fail
        go_round
        case rel => exact ⟨k + 1, by omega, by go_num, hs⟩
        case measure => simp [intOf]; omega
    · have hf : Hid (V = true) := by
        show V = true
        rw [← hV.out]
        have := hall.out
        rw [List.take_of_length_le (by rw [← e2.out]; omega)] at this
        exact this
      go_wp2_with fail
      go_ret
      exact ⟨ret_bool hf.out.symm, hn1⟩
set_option maxHeartbeats 400000 in
theorem specValidS_any (s : ByteArray) (w : World) (hs : s.size ≤ 17592186044416) : Calls Tryd.prog 34 #[.string s] w fun e w' => e = .returned (.bool (validB s.data.toList)) ∧ Nx w w' := by
  have hcv := fun W => run_str_bytes (P := Tryd.prog) 9 30 5 Tryd.underlying9 Tryd.underlying30 Tryd.underlying5 s W
  go_enter Tryd.func34, Tryd.ntmps34
  go_wp2_with fail
  refine (specValid_any _ _ _ s.data.toList _ (by_str_bytes _ _ _) (grownCap_ge _ _ _ _) (by omega)).mono ?_
  rintro e w1 ⟨rfl, hn1⟩
  clear hcv
  go_wp2
  go_ret
  exact ⟨rfl, (nx_str_bytes 5 s w).trans hn1⟩
end Go.Proofs.YtpijokiagkhdeaaDoor
