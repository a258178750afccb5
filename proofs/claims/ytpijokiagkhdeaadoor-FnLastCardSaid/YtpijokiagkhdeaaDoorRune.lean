/- Contracts: RuneLen and ValidRune, by unicode/utf8, by spec and through impl. -/
import Derived.Test.YtpijokiagkhdeaaDoorGood
import Derived.Test.YtpijokiagkhdeaaDoorEncoding
namespace Go.Proofs.YtpijokiagkhdeaaDoor
open Go.RowKit Go.Lib
set_option linter.unusedVariables false
def lenZ (r : Int) : Int := if goodB r then ((encodeRune r).length : Int) else -1
theorem lenZ_good {r : Int} (h : goodB r = true) : lenZ r = ((encodeRune r).length : Int) := by simp [lenZ, h]
theorem lenZ_bad {r : Int} (h : goodB r = false) : lenZ r = -1 := by simp [lenZ, h]
theorem lenZ_one {r : Int} (h0 : 0 ≤ r) (h1 : r ≤ 127) : lenZ r = 1 := by
  rw [lenZ_good (by rw [goodB_iff]; omega), enc_one h0 h1]; rfl
theorem lenZ_two {r : Int} (h0 : 128 ≤ r) (h1 : r ≤ 2047) : lenZ r = 2 := by
  rw [lenZ_good (by rw [goodB_iff]; omega), enc_two h0 h1]; rfl
theorem lenZ_three {r : Int} (h : (2048 ≤ r ∧ r < 55296) ∨ (57343 < r ∧ r ≤ 65535)) : lenZ r = 3 := by
  rw [lenZ_good (by rw [goodB_iff]; omega), enc_three h]; rfl
theorem lenZ_four {r : Int} (h0 : 65536 ≤ r) (h1 : r ≤ 1114111) : lenZ r = 4 := by
  rw [lenZ_good (by rw [goodB_iff]; omega), enc_four h0 h1]; rfl
theorem lenZ_none {r : Int} (h : r < 0 ∨ (55296 ≤ r ∧ r ≤ 57343) ∨ 1114111 < r) : lenZ r = -1 := by
  refine lenZ_bad ?_
  cases hg : goodB r with
  | false => rfl
  | true => rw [goodB_iff] at hg; omega
theorem lenZ_range (r : Int) : -1 ≤ lenZ r ∧ lenZ r ≤ 4 := by
  unfold lenZ
  have := enc_length r
  split <;> omega
theorem good_of_false {r : Int} (h : r < 0 ∨ (55296 ≤ r ∧ r ≤ 57343) ∨ 1114111 < r) : goodB r = false := by
  cases hg : goodB r with
  | false => rfl
  | true => rw [goodB_iff] at hg; omega
set_option maxHeartbeats 400000 in
theorem utf8_len (r : Int) (w : World) : Calls Tryd.prog 49 #[.int .i32 r] w fun e w' => e = .returned (.int .i64 (lenZ r)) ∧ w = w' := by
  by_cases h0 : r < 0
  · have hl := Lib.hid (lenZ_none (r := r) (Or.inl h0))
    go_enter Tryd.func49, Tryd.ntmps49
    go_wp2
    go_ret
    exact ⟨ret_int hl.out.symm, rfl⟩
  by_cases h1 : r ≤ 127
  · have hl := Lib.hid (lenZ_one (by omega) h1)
    go_enter Tryd.func49, Tryd.ntmps49
    go_wp2
    go_ret
    exact ⟨ret_int hl.out.symm, rfl⟩
  by_cases h2 : r ≤ 2047
  · have hl := Lib.hid (lenZ_two (by omega) h2)
    go_enter Tryd.func49, Tryd.ntmps49
    go_wp2
    go_ret
    exact ⟨ret_int hl.out.symm, rfl⟩
  by_cases h3 : 55296 ≤ r
  · by_cases h4 : r ≤ 57343
    · have hl := Lib.hid (lenZ_none (r := r) (Or.inr (Or.inl ⟨h3, h4⟩)))
      go_enter Tryd.func49, Tryd.ntmps49
      go_wp2
      go_ret
      exact ⟨ret_int hl.out.symm, rfl⟩
    · have d4 : decide (r ≤ 57343) = false := by simp; omega
      by_cases h5 : r ≤ 65535
      · have hl := Lib.hid (lenZ_three (r := r) (Or.inr ⟨by omega, h5⟩))
        go_enter Tryd.func49, Tryd.ntmps49
        go_wp2
        go_ret
        exact ⟨ret_int hl.out.symm, rfl⟩
      by_cases h6 : r ≤ 1114111
      · have hl := Lib.hid (lenZ_four (by omega) h6)
        go_enter Tryd.func49, Tryd.ntmps49
        go_wp2
        go_ret
        exact ⟨ret_int hl.out.symm, rfl⟩
      · have hl := Lib.hid (lenZ_none (r := r) (Or.inr (Or.inr (by omega))))
        go_enter Tryd.func49, Tryd.ntmps49
        go_wp2
        go_ret
        exact ⟨ret_int hl.out.symm, rfl⟩
  · have d3 : decide (55296 ≤ r) = false := by simp; omega
    have hl := Lib.hid (lenZ_three (r := r) (Or.inl ⟨by omega, by omega⟩))
    go_enter Tryd.func49, Tryd.ntmps49
    go_wp2
    go_ret
    exact ⟨ret_int hl.out.symm, rfl⟩
set_option maxHeartbeats 400000 in
theorem len_any (r : Int) (w : World) : Calls Tryd.prog 32 #[.int .i32 r] w fun e w' => e = .returned (.int .i64 (lenZ r)) ∧ w = w' := by
  have hr := lenZ_range r
  obtain ⟨L, hL⟩ : ∃ L, Hid (lenZ r = L) := ⟨_, rfl⟩
  rw [hL.out] at hr ⊢
  have cl := Lib.hid fun w => utf8_len r w
  rw [hL.out] at cl
  obtain ⟨h1, h2⟩ := hr
  go_enter Tryd.func32, Tryd.ntmps32
  go_wp2_with (go_at_call 49; refine (cl.out _).mono ?_; rintro e w' ⟨rfl, rfl⟩)
  go_ret
  exact ⟨rfl, rfl⟩
set_option maxHeartbeats 400000 in
theorem utf8_validRune (r : Int) (w : World) : Calls Tryd.prog 48 #[.int .i32 r] w fun e w' => e = .returned (.bool (goodB r)) ∧ w = w' := by
  by_cases h0 : 0 ≤ r
  · by_cases h1 : r < 55296
    · rw [show goodB r = true by rw [goodB_iff]; omega]
      go_enter Tryd.func48, Tryd.ntmps48
      go_wp2
      go_ret
      exact ⟨rfl, rfl⟩
    · have d1 : decide (r < 55296) = false := by simp; omega
      by_cases h2 : 57343 < r
      · by_cases h3 : r ≤ 1114111
        · rw [show goodB r = true by rw [goodB_iff]; omega]
          go_enter Tryd.func48, Tryd.ntmps48
          go_wp2
          go_ret
          exact ⟨rfl, rfl⟩
        · have d3 : decide (r ≤ 1114111) = false := by simp; omega
          rw [show goodB r = false from good_of_false (by omega)]
          go_enter Tryd.func48, Tryd.ntmps48
          go_wp2
          go_ret
          exact ⟨rfl, rfl⟩
      · have d2 : decide (57343 < r) = false := by simp; omega
        rw [show goodB r = false from good_of_false (by omega)]
        go_enter Tryd.func48, Tryd.ntmps48
        go_wp2
        go_ret
        exact ⟨rfl, rfl⟩
  · have d0 : decide (0 ≤ r) = false := by simp; omega
    have d2 : decide (57343 < r) = false := by simp; omega
    rw [show goodB r = false from good_of_false (by omega)]
    go_enter Tryd.func48, Tryd.ntmps48
    go_wp2
    go_ret
    exact ⟨rfl, rfl⟩
set_option maxHeartbeats 400000 in
theorem validRune_any (r : Int) (w : World) : Calls Tryd.prog 30 #[.int .i32 r] w fun e w' => e = .returned (.bool (goodB r)) ∧ w = w' := by
  go_enter Tryd.func30, Tryd.ntmps30
  go_wp2_with (go_at_call 48; refine (utf8_validRune _ _).mono ?_; rintro e w' ⟨rfl, rfl⟩)
  go_ret
  exact ⟨rfl, rfl⟩
end Go.Proofs.YtpijokiagkhdeaaDoor
