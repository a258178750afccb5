/- Contract: spec.DecodeRune: what is decoded in front. -/
import Derived.Test.YtliaaandgeogjaaWhole
namespace Go.Proofs.Ytliaaandgeogjaa
open Go.RowKit Go.Lib
set_option linter.unusedVariables false
set_option maxHeartbeats 1000000 in
theorem specDecode_any (A : Option Addr) (n c : Nat) (l : List UInt8) (w : World) (hl : By w A n l) (hc : n ≤ c) (hn : n ≤ 9223372036854775806) :
    Calls Try.prog 15 #[.slice A n c] w fun e w' => e = .returned (.tuple #[.int .i32 ((dec l).1 : Int), .int .i64 ((dec l).2 : Int)]) ∧ Nx w w' := by
  have LX := Lib.hid hl.len
  by_cases h0 : n = 0
  · have hz : ((n : Int) == 0) = true := by simp [h0]
    have hd : dec l = (65533, 0) := by
      have : l = [] := List.eq_nil_of_length_eq_zero (by rw [LX.out]; exact h0)
      rw [this]
      rfl
    rw [hd]
    clear hd h0
    go_enter Try.func15, Try.ntmps15
    go_wp2
    go_ret2
    exact ⟨rfl, Nx.refl _⟩
  · have hz : ((n : Int) == 0) = false := by simp; omega
    have hne : Hid (l ≠ []) := by
      intro h
      have := LX.out
      rw [h] at this
      simp at this
      omega
    obtain ⟨D, hD⟩ : ∃ D, Hid (dec l = D) := ⟨_, rfl⟩
    rw [hD.out]
    go_enter Try.func15, Try.ntmps15
    go_wp2
    go_loopw [4] (fun i wr => ∃ k : Nat, 1 ≤ k ∧ k ≤ 5 ∧ k ≤ n + 1 ∧ i = .int .i64 k ∧ Hid (∀ j, 1 ≤ j → j < k → wholeB (l.take j) = false) ∧ Nx w wr) (fun i _ => 5 - (intOf i).toNat)
    case atStart => exact ⟨1, Nat.le_refl _, by omega, by omega, rfl, fun j h1 h2 => by omega, Nx.refl _⟩
    case round =>
      obtain ⟨k, hk1, hk5, hkn, rfl, hno, hnx⟩ := hrel
      by_cases h4 : k ≤ 4
      · have d4 : decide ((k : Int) ≤ 4) = true := by simp; omega
        by_cases hkl : k ≤ n
        · have hup := fun W => run_upto (P := Try.prog) 34 5 Try.underlying34 (fun _ => by kernel_rfl) A n c .i64 (k : Int) k rfl (by omega) W
          obtain ⟨R, hR⟩ : ∃ R, Hid (wholeR (l.take k) = R) := ⟨_, rfl⟩
          have cw := Lib.hid fun W (hW : Nx w W) => whole_any A k c (l.take k) W ((hl.next hW).upto hkl) (by omega)
          rw [hR.out] at cw
          cases hw : wholeB (l.take k) with
          | false =>
            rw [hw] at cw
            have hs : Hid (∀ j, 1 ≤ j → j < k + 1 → wholeB (l.take j) = false) := fun j h1 h2 => by
              by_cases e : j = k
              · rw [e]; exact hw
              · exact hno.out j h1 (by omega)
            clear hw
            go_wp2_with (go_at_call 16; refine (cw.out _ hnx).mono ?_; rintro e w2 ⟨rfl, hn2⟩)
            go_roundw
            case rel => exact ⟨k + 1, by omega, by omega, by omega, by go_num, hs, hnx.trans hn2⟩
            case measure => simp [intOf]; omega
          | true =>
            rw [hw] at cw
            have hs := Lib.hid (dec_found hw (by rw [LX.out]; exact hkl))
            clear hw
            go_wp2_with (go_at_call 16; refine (cw.out _ hnx).mono ?_; rintro e w2 ⟨rfl, hn2⟩)
            go_ret2
            refine ⟨ret_two (val_int ?_) (val_int ?_), hnx.trans hn2⟩
            · rw [← hD.out, hs.out.1]; exact (hs.out.2.trans hR.out).symm
            · rw [← hD.out, hs.out.1]
        · have dk : decide (k ≤ n) = false := by simp; omega
          have hs : Hid (D = (65533, 1)) := by
            show D = _
            rw [← hD.out]
            exact dec_not hne.out (fun j h1 h2 h3 => hno.out j h1 (by rw [LX.out] at h3; omega))
          go_wp2
          go_ret2
          rw [hs.out]
          exact ⟨rfl, hnx⟩
      · have d4 : decide ((k : Int) ≤ 4) = false := by simp; omega
        have hs : Hid (D = (65533, 1)) := by
          show D = _
          rw [← hD.out]
          exact dec_not hne.out (fun j h1 h2 h3 => hno.out j h1 (by omega))
        go_wp2
        go_ret2
        rw [hs.out]
        exact ⟨rfl, hnx⟩
end Go.Proofs.Ytliaaandgeogjaa
