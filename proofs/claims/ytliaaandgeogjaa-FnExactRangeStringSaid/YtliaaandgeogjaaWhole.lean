/- Contracts: spec.Bits and spec.Whole: the number that one to four bytes tell, and whether they are the encoding of a good rune. -/
import Derived.Test.YtliaaandgeogjaaRows
import Derived.Test.YtliaaandgeogjaaPlainB
import Derived.Test.YtliaaandgeogjaaGood
import Derived.Test.YtliaaandgeogjaaEncoding
import Derived.Test.YtliaaandgeogjaaSame
namespace Go.Proofs.Ytliaaandgeogjaa
open Go.RowKit Go.Lib
set_option linter.unusedVariables false
set_option maxHeartbeats 1000000 in
theorem bits_any (A : Option Addr) (n c : Nat) (l : List UInt8) (w : World) (hl : By w A n l) (h1 : 1 ≤ n) (h4 : n ≤ 4) :
    Calls Try.prog 17 #[.slice A n c] w fun e w' => e = .returned (.int .i32 (bitsZ l)) ∧ w = w' := by
  have LX := Lib.hid hl.len
  obtain ⟨b, off, u, rfl, hb, c1, hu0, hu1, hu⟩ := hl.at_ (k := 0) (by omega)
  rw [Nat.add_zero] at c1
  have R0 := Lib.hid (bitsTo_range l 0 (by rw [LX.out]; omega) (by rw [LX.out]; omega))
  have B0 : Hid (bitsTo l 0 = bits0 n u) := by
    show _ = _
    simp only [bitsTo]
    rw [LX.out, hu.out]
  by_cases e2 : n = 2
  · have hn2 : ((n : Int) == 2) = true := by simp [e2]
    have H1 : Hid (u % 32 = bitsTo l (1 - 1)) := by show _ = _; rw [Nat.sub_self, B0.out]; simp [bits0, e2]
    have H0 : Hid (0 ≤ u % 32 ∧ u % 32 ≤ 2097151) := by show _ ∧ _; omega
    have hnn : 1 < n := by omega
    clear e2
    go_enter Try.func17, Try.ntmps17
    go_wp2
    go_loop [3, 4] (fun r i => ∃ (k : Nat) (v : Int), 1 ≤ k ∧ k ≤ n ∧ i = .int .i64 k ∧ r = .int .i32 v ∧ 0 ≤ v ∧ v ≤ 2097151 ∧ Hid (v = bitsTo l (k - 1))) (fun _ i => n - (intOf i).toNat)
    case atStart => exact ⟨1, _, Nat.le_refl _, by omega, rfl, rfl, H0.out.1, H0.out.2, H1⟩
    case round =>
      obtain ⟨k, v, hk1, hk, rfl, rfl, hv0, hv1, hv⟩ := hrel
      by_cases hlt : k < n
      · obtain ⟨b', off', x, hA, hb', c2, hx0, hx1, hx⟩ := hl.at_ hlt
        have hab : b' = b ∧ off' = off := by injection hA with hA; injection hA with h1 h2; exact ⟨h1.symm, h2.symm⟩
        obtain ⟨rfl, rfl⟩ := hab
        clear hA
        have hs : Hid (64 * v + x % 64 = bitsTo l (k + 1 - 1)) := by
          show _ = _
          obtain ⟨j, rfl⟩ : ∃ j, k = j + 1 := ⟨k - 1, by omega⟩
          rw [hv.out, ← hx.out]
          rfl
        have hr : Hid (0 ≤ 64 * v + x % 64 ∧ 64 * v + x % 64 ≤ 2097151) := by
          have := bitsTo_range l (k + 1 - 1) (by rw [LX.out]; omega) (by rw [LX.out]; omega)
          rw [← hs.out] at this
          exact this
        go_wp2
        go_round
        case rel => exact ⟨k + 1, _, by omega, by omega, by go_num, rfl, hr.out.1, hr.out.2, hs⟩
        case measure => simp [intOf]; omega
      · obtain rfl : k = n := by omega
        go_wp2
        go_ret
        exact ⟨ret_int (by rw [hv.out]; unfold bitsZ; rw [LX.out]), rfl⟩
  · have hn2 : ((n : Int) == 2) = false := by simp; omega
    by_cases e3 : n = 3
    · have hn3 : ((n : Int) == 3) = true := by simp [e3]
      have H1 : Hid (u % 16 = bitsTo l (1 - 1)) := by show _ = _; rw [Nat.sub_self, B0.out]; simp [bits0, e3]
      have H0 : Hid (0 ≤ u % 16 ∧ u % 16 ≤ 2097151) := by show _ ∧ _; omega
      have hnn : 1 < n := by omega
      clear e2 e3
      go_enter Try.func17, Try.ntmps17
      go_wp2
      go_loop [3, 4] (fun r i => ∃ (k : Nat) (v : Int), 1 ≤ k ∧ k ≤ n ∧ i = .int .i64 k ∧ r = .int .i32 v ∧ 0 ≤ v ∧ v ≤ 2097151 ∧ Hid (v = bitsTo l (k - 1))) (fun _ i => n - (intOf i).toNat)
      case atStart => exact ⟨1, _, Nat.le_refl _, by omega, rfl, rfl, H0.out.1, H0.out.2, H1⟩
      case round =>
        obtain ⟨k, v, hk1, hk, rfl, rfl, hv0, hv1, hv⟩ := hrel
        by_cases hlt : k < n
        · obtain ⟨b', off', x, hA, hb', c2, hx0, hx1, hx⟩ := hl.at_ hlt
          have hab : b' = b ∧ off' = off := by injection hA with hA; injection hA with h1 h2; exact ⟨h1.symm, h2.symm⟩
          obtain ⟨rfl, rfl⟩ := hab
          clear hA
          have hs : Hid (64 * v + x % 64 = bitsTo l (k + 1 - 1)) := by
            show _ = _
            obtain ⟨j, rfl⟩ : ∃ j, k = j + 1 := ⟨k - 1, by omega⟩
            rw [hv.out, ← hx.out]
            rfl
          have hr : Hid (0 ≤ 64 * v + x % 64 ∧ 64 * v + x % 64 ≤ 2097151) := by
            have := bitsTo_range l (k + 1 - 1) (by rw [LX.out]; omega) (by rw [LX.out]; omega)
            rw [← hs.out] at this
            exact this
          go_wp2
          go_round
          case rel => exact ⟨k + 1, _, by omega, by omega, by go_num, rfl, hr.out.1, hr.out.2, hs⟩
          case measure => simp [intOf]; omega
        · obtain rfl : k = n := by omega
          go_wp2
          go_ret
          exact ⟨ret_int (by rw [hv.out]; unfold bitsZ; rw [LX.out]), rfl⟩
    · have hn3 : ((n : Int) == 3) = false := by simp; omega
      by_cases e4 : n = 4
      · have hn4 : ((n : Int) == 4) = true := by simp [e4]
        have H1 : Hid (u % 8 = bitsTo l (1 - 1)) := by show _ = _; rw [Nat.sub_self, B0.out]; simp [bits0, e4]
        have H0 : Hid (0 ≤ u % 8 ∧ u % 8 ≤ 2097151) := by show _ ∧ _; omega
        have hnn : 1 < n := by omega
        clear e2 e3 e4
        go_enter Try.func17, Try.ntmps17
        go_wp2
        go_loop [3, 4] (fun r i => ∃ (k : Nat) (v : Int), 1 ≤ k ∧ k ≤ n ∧ i = .int .i64 k ∧ r = .int .i32 v ∧ 0 ≤ v ∧ v ≤ 2097151 ∧ Hid (v = bitsTo l (k - 1))) (fun _ i => n - (intOf i).toNat)
        case atStart => exact ⟨1, _, Nat.le_refl _, by omega, rfl, rfl, H0.out.1, H0.out.2, H1⟩
        case round =>
          obtain ⟨k, v, hk1, hk, rfl, rfl, hv0, hv1, hv⟩ := hrel
          by_cases hlt : k < n
          · obtain ⟨b', off', x, hA, hb', c2, hx0, hx1, hx⟩ := hl.at_ hlt
            have hab : b' = b ∧ off' = off := by injection hA with hA; injection hA with h1 h2; exact ⟨h1.symm, h2.symm⟩
            obtain ⟨rfl, rfl⟩ := hab
            clear hA
            have hs : Hid (64 * v + x % 64 = bitsTo l (k + 1 - 1)) := by
              show _ = _
              obtain ⟨j, rfl⟩ : ∃ j, k = j + 1 := ⟨k - 1, by omega⟩
              rw [hv.out, ← hx.out]
              rfl
            have hr : Hid (0 ≤ 64 * v + x % 64 ∧ 64 * v + x % 64 ≤ 2097151) := by
              have := bitsTo_range l (k + 1 - 1) (by rw [LX.out]; omega) (by rw [LX.out]; omega)
              rw [← hs.out] at this
              exact this
            go_wp2
            go_round
            case rel => exact ⟨k + 1, _, by omega, by omega, by go_num, rfl, hr.out.1, hr.out.2, hs⟩
            case measure => simp [intOf]; omega
          · obtain rfl : k = n := by omega
            go_wp2
            go_ret
            exact ⟨ret_int (by rw [hv.out]; unfold bitsZ; rw [LX.out]), rfl⟩
      · have hn4 : ((n : Int) == 4) = false := by simp; omega
        have H1 : Hid (u = bitsTo l (1 - 1)) := by show _ = _; rw [Nat.sub_self, B0.out]; simp [bits0, e2, e3, e4]
        have H0 : Hid (0 ≤ u ∧ u ≤ 2097151) := by show _ ∧ _; omega
        clear e2 e3 e4
        go_enter Try.func17, Try.ntmps17
        go_wp2
        go_loop [3, 4] (fun r i => ∃ (k : Nat) (v : Int), 1 ≤ k ∧ k ≤ n ∧ i = .int .i64 k ∧ r = .int .i32 v ∧ 0 ≤ v ∧ v ≤ 2097151 ∧ Hid (v = bitsTo l (k - 1))) (fun _ i => n - (intOf i).toNat)
        case atStart => exact ⟨1, _, Nat.le_refl _, by omega, rfl, rfl, H0.out.1, H0.out.2, H1⟩
        case round =>
          obtain ⟨k, v, hk1, hk, rfl, rfl, hv0, hv1, hv⟩ := hrel
          by_cases hlt : k < n
          · obtain ⟨b', off', x, hA, hb', c2, hx0, hx1, hx⟩ := hl.at_ hlt
            have hab : b' = b ∧ off' = off := by injection hA with hA; injection hA with h1 h2; exact ⟨h1.symm, h2.symm⟩
            obtain ⟨rfl, rfl⟩ := hab
            clear hA
            have hs : Hid (64 * v + x % 64 = bitsTo l (k + 1 - 1)) := by
              show _ = _
              obtain ⟨j, rfl⟩ : ∃ j, k = j + 1 := ⟨k - 1, by omega⟩
              rw [hv.out, ← hx.out]
              rfl
            have hr : Hid (0 ≤ 64 * v + x % 64 ∧ 64 * v + x % 64 ≤ 2097151) := by
              have := bitsTo_range l (k + 1 - 1) (by rw [LX.out]; omega) (by rw [LX.out]; omega)
              rw [← hs.out] at this
              exact this
            go_wp2
            go_round
            case rel => exact ⟨k + 1, _, by omega, by omega, by go_num, rfl, hr.out.1, hr.out.2, hs⟩
            case measure => simp [intOf]; omega
          · obtain rfl : k = n := by omega
            go_wp2
            go_ret
            exact ⟨ret_int (by rw [hv.out]; unfold bitsZ; rw [LX.out]), rfl⟩
set_option maxHeartbeats 1000000 in
theorem whole_any (A : Option Addr) (n c : Nat) (l : List UInt8) (w : World) (hl : By w A n l) (hn : n ≤ 9223372036854775807) :
    Calls Try.prog 16 #[.slice A n c] w fun e w' => e = .returned (.tuple #[.int .i32 (wholeR l), .bool (wholeB l)]) ∧ Nx w w' := by
  have LX := Lib.hid hl.len
  by_cases h1 : n < 1
  · have hw : wholeB l = false := whole_len (by rw [LX.out]; omega)
    have hr := whole_not hw
    rw [hw, hr]
    clear hw hr
    go_enter Try.func16, Try.ntmps16
    go_wp2
    go_ret2
    exact ⟨rfl, Nx.refl _⟩
  · have d1 : decide ((n : Int) < 1) = false := by simp; omega
    by_cases h4 : 4 < n
    · have hw : wholeB l = false := whole_len (by rw [LX.out]; omega)
      have hr := whole_not hw
      rw [hw, hr]
      clear hw hr
      go_enter Try.func16, Try.ntmps16
      go_wp2
      go_ret2
      exact ⟨rfl, Nx.refl _⟩
    · have d4 : decide ((4 : Int) < (n : Int)) = false := by simp; omega
      obtain ⟨r, hr⟩ : ∃ r, bitsZ l = r := ⟨_, rfl⟩
      have cb := Lib.hid fun w hl => bits_any A n c l w hl (by omega) (by omega)
      rw [hr] at cb
      cases hg : goodB r with
      | false =>
        have hw : wholeB l = false := whole_bad (by rw [hr]; exact hg)
        have hwr := whole_not hw
        rw [hw, hwr]
        clear hw hwr hr
        go_enter Try.func16, Try.ntmps16
        go_wp2_with (first | (go_at_call 17; refine (cb.out _ hl).mono ?_; rintro e w' ⟨rfl, rfl⟩) | (go_at_call 18; refine (good_any _ _).mono ?_; rintro e w' ⟨rfl, rfl⟩))
        go_ret2
        exact ⟨rfl, Nx.refl _⟩
      | true =>
        have hwe : wholeB l = decide (encodeRune r = l) := by have := whole_eq (l := l) (by rw [hr]; exact hg); rwa [hr] at this
        have HR := Lib.hid hr
        clear hr
        cases he : eqB (encodeRune r) l with
        | false =>
          have hw : wholeB l = false := by rw [hwe]; simpa [eqB] using he
          have hwr := whole_not hw
          rw [hw, hwr]
          clear hw hwr hwe
          have HE := Lib.hid he
          clear he
          go_enter Try.func16, Try.ntmps16
          go_wp2_with (first | (go_at_call 17; refine (cb.out _ hl).mono ?_; rintro e w' ⟨rfl, rfl⟩) | (go_at_call 18; refine (good_any _ _).mono ?_; rintro e w' ⟨rfl, rfl⟩) | (go_at_call 20; refine (encoding_any _ _ hg).mono ?_; rintro e w2 ⟨A2, n2, c2, rfl, hown2, hnx2⟩; have hn2 : n2 ≤ 4 := by (have := hown2.len; have h4 := enc_length r; rw [nums_length] at this; omega)) | (go_at_call 19; refine (same_u8_by _ _ _ _ _ _ (encodeRune r) l _ hown2.sl (hl.next hnx2) (by omega) hn).mono ?_; rw [HE.out]; rintro e w3 ⟨rfl, hnx3⟩))
          go_ret2
          exact ⟨rfl, hnx2.trans hnx3⟩
        | true =>
          have hw : wholeB l = true := by rw [hwe]; simpa [eqB] using he
          have hwr : wholeR l = r := by unfold wholeR; rw [if_pos hw]; exact HR.out
          rw [hw, hwr]
          clear hw hwr hwe
          have HE := Lib.hid he
          clear he
          go_enter Try.func16, Try.ntmps16
          go_wp2_with (first | (go_at_call 17; refine (cb.out _ hl).mono ?_; rintro e w' ⟨rfl, rfl⟩) | (go_at_call 18; refine (good_any _ _).mono ?_; rintro e w' ⟨rfl, rfl⟩) | (go_at_call 20; refine (encoding_any _ _ hg).mono ?_; rintro e w2 ⟨A2, n2, c2, rfl, hown2, hnx2⟩; have hn2 : n2 ≤ 4 := by (have := hown2.len; have h4 := enc_length r; rw [nums_length] at this; omega)) | (go_at_call 19; refine (same_u8_by _ _ _ _ _ _ (encodeRune r) l _ hown2.sl (hl.next hnx2) (by omega) hn).mono ?_; rw [HE.out]; rintro e w3 ⟨rfl, hnx3⟩))
          go_ret2
          exact ⟨rfl, hnx2.trans hnx3⟩
end Go.Proofs.Ytliaaandgeogjaa
