/- Contracts: spec.DecodeLastRune, spec.DecodeLastRuneInString: what is decoded at the end. -/
import Derived.Test.YtdhofjhmbdeibaaDoorWhole
namespace Go.Proofs.YtdhofjhmbdeibaaDoor
open Go.RowKit Go.Lib
set_option linter.unusedVariables false
set_option maxHeartbeats 1000000 in
theorem specLast_any (A : Option Addr) (n c : Nat) (l : List UInt8) (w : World) (hl : By w A n l) (hc : n ≤ c) (hn : n ≤ 9223372036854775806) :
    Calls Tryd.prog 32 #[.slice A n c] w fun e w' => e = .returned (.tuple #[.int .i32 ((decodeLastL l).1 : Int), .int .i64 ((decodeLastL l).2 : Int)]) ∧ Nx w w' := by
  have LX := Lib.hid hl.len
  by_cases h0 : n = 0
  · have hz : ((n : Int) == 0) = true := by simp [h0]
    have hd : decodeLastL l = (65533, 0) := by
      have : l = [] := List.eq_nil_of_length_eq_zero (by rw [LX.out]; exact h0)
      rw [this]
      rfl
    rw [hd]
    clear hd h0
    go_enter Tryd.func32, Tryd.ntmps32
    go_wp2
    go_ret2
    exact ⟨rfl, Nx.refl _⟩
  · have hz : ((n : Int) == 0) = false := by simp; omega
    have hne : Hid (l ≠ []) := by
      intro h
      have := LX.out
      rw [h] at this
      simp at this
      omega
    obtain ⟨D, hD⟩ : ∃ D, Hid (decodeLastL l = D) := ⟨_, rfl⟩
    rw [hD.out]
    go_enter Tryd.func32, Tryd.ntmps32
    go_wp2
    go_loopw [4] (fun i wr => ∃ k : Nat, 1 ≤ k ∧ k ≤ 5 ∧ k ≤ n + 1 ∧ i = .int .i64 k ∧ Hid (∀ j, 1 ≤ j → j < k → wholeB (l.drop (n - j)) = false) ∧ Nx w wr) (fun i _ => 5 - (intOf i).toNat)
    case atStart => exact ⟨1, Nat.le_refl _, by omega, by omega, rfl, fun j h1 h2 => by omega, Nx.refl _⟩
    case round =>
      obtain ⟨k, hk1, hk5, hkn, rfl, hno, hnx⟩ := hrel
      by_cases h4 : k ≤ 4
      · have d4 : decide ((k : Int) ≤ 4) = true := by simp; omega
        by_cases hkl : k ≤ n
        · have hcut := fun W => run_cut (P := Tryd.prog) 30 5 Tryd.underlying30 (fun _ => by kernel_rfl) A n c .i64 ((n : Int) - (k : Int)) (n - k) (by omega) (by omega) W
          rw [show n - (n - k) = k by omega] at hcut
          obtain ⟨R, hR⟩ : ∃ R, Hid (wholeR (l.drop (n - k)) = R) := ⟨_, rfl⟩
          have sb := Lib.hid fun W (hW : Nx w W) => By.from_ (i := n - k) (cap := c) (hl.next hW) (by omega) hc
          rw [show n - (n - k) = k by omega] at sb
          have cw := Lib.hid fun W (hW : Nx w W) => whole_any (cutA A c (n - k)) k (c - (n - k)) (l.drop (n - k)) W (sb.out W hW) (by omega)
          rw [hR.out] at cw
          cases hw : wholeB (l.drop (n - k)) with
          | false =>
            rw [hw] at cw
            have hs : Hid (∀ j, 1 ≤ j → j < k + 1 → wholeB (l.drop (n - j)) = false) := fun j h1 h2 => by
              by_cases e : j = k
              · rw [e]; exact hw
              · exact hno.out j h1 (by omega)
            clear hw
            go_wp2_with (go_at_call 49; refine (cw.out _ hnx).mono ?_; rintro e w2 ⟨rfl, hn2⟩)
            go_roundw
            case rel => exact ⟨k + 1, by omega, by omega, by omega, by go_num, hs, hnx.trans hn2⟩
            case measure => simp [intOf]; omega
          | true =>
            rw [hw] at cw
            have hs : Hid (decodeLastL l = ((wholeR (l.drop (n - k))).toNat, k) ∧ ((wholeR (l.drop (n - k))).toNat : Int) = wholeR (l.drop (n - k))) := by
              have := last_found (l := l) (k := k) (by rw [LX.out]; exact hw) (by rw [LX.out]; exact hkl)
              rw [LX.out] at this
              exact this
            clear hw
            go_wp2_with (go_at_call 49; refine (cw.out _ hnx).mono ?_; rintro e w2 ⟨rfl, hn2⟩)
            go_ret2
            refine ⟨ret_two (val_int ?_) (val_int ?_), hnx.trans hn2⟩
            · rw [← hD.out, hs.out.1]; exact (hs.out.2.trans hR.out).symm
            · rw [← hD.out, hs.out.1]
        · have dk : decide (k ≤ n) = false := by simp; omega
          have hs : Hid (D = (65533, 1)) := by
            show D = _
            rw [← hD.out]
            exact last_not hne.out (fun j h1 h2 h3 => by rw [LX.out] at h3 ⊢; exact hno.out j h1 (by omega))
          go_wp2
          go_ret2
          rw [hs.out]
          exact ⟨rfl, hnx⟩
      · have d4 : decide ((k : Int) ≤ 4) = false := by simp; omega
        have hs : Hid (D = (65533, 1)) := by
          show D = _
          rw [← hD.out]
          exact last_not hne.out (fun j h1 h2 h3 => by rw [LX.out]; exact hno.out j h1 (by omega))
        go_wp2
        go_ret2
        rw [hs.out]
        exact ⟨rfl, hnx⟩
set_option maxHeartbeats 400000 in
theorem specLastS_any (s : ByteArray) (w : World) (hs : s.size ≤ 17592186044416) : Calls Tryd.prog 27 #[.string s] w fun e w' => e = .returned (.tuple #[.int .i32 ((decodeLastL s.data.toList).1 : Int), .int .i64 ((decodeLastL s.data.toList).2 : Int)]) ∧ Nx w w' := by
  have hcv := fun W => run_str_bytes (P := Tryd.prog) 9 30 5 Tryd.underlying9 Tryd.underlying30 Tryd.underlying5 s W
  obtain ⟨R, hR⟩ : ∃ R, Hid ((decodeLastL s.data.toList).1 = R) := ⟨_, rfl⟩
  obtain ⟨K, hK⟩ : ∃ K, Hid ((decodeLastL s.data.toList).2 = K) := ⟨_, rfl⟩
  rw [hR.out, hK.out]
  go_enter Tryd.func27, Tryd.ntmps27
  go_wp2_with fail
  refine (specLast_any _ _ _ s.data.toList _ (by_str_bytes _ _ _) (grownCap_ge _ _ _ _) (by omega)).mono ?_
  rw [hR.out, hK.out]
  rintro e w1 ⟨rfl, hn1⟩
  clear hcv
  go_wp2_with fail
  go_ret2
  exact ⟨rfl, (nx_str_bytes 5 s w).trans hn1⟩
end Go.Proofs.YtdhofjhmbdeibaaDoor
