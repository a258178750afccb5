/- Contract: spec.Begins: whether some bytes are a proper beginning of an encoding. -/
import Derived.Test.YtgjdlcnmfpbbhaaDoorFilled
import Derived.Test.YtgjdlcnmfpbbhaaDoorWhole
import Derived.Test.YtgjdlcnmfpbbhaaDoorGood
namespace Go.Proofs.YtgjdlcnmfpbbhaaDoor
open Go.RowKit Go.Lib
set_option linter.unusedVariables false
theorem fill_len (l : List UInt8) (m : Nat) (b : UInt8) (h : l.length ≤ m) : (fill l m b).length = m := by
  unfold fill
  rw [List.length_append, List.length_replicate]
  omega
theorem bits_range4 (l : List UInt8) (h1 : 1 ≤ l.length) (h4 : l.length ≤ 4) : 0 ≤ bitsZ l ∧ bitsZ l ≤ 2097151 := by
  unfold bitsZ
  exact bitsTo_range l (l.length - 1) h4 (by omega)
def NoneTo (l : List UInt8) (j : Nat) : Prop := ∀ m, 2 ≤ m → m < j → begAt l m = false
theorem NoneTo.step {l : List UInt8} {j : Nat} (h : NoneTo l j) (hj : begAt l j = false) : NoneTo l (j + 1) := fun m h1 h2 => by
  by_cases e : m = j
  · rw [e]; exact hj
  · exact h m h1 (by omega)
theorem NoneTo.all {l : List UInt8} (h : NoneTo l 5) : begB l = false := by
  rw [begB_at, h 2 (by omega) (by omega), h 3 (by omega) (by omega), h 4 (by omega) (by omega)]
  rfl
theorem beg_yes {l : List UInt8} {m : Nat} (hm : m = 2 ∨ m = 3 ∨ m = 4) (h : begAt l m = true) : begB l = true := by
  rw [begB_at]
  rcases hm with rfl | rfl | rfl <;> rw [h] <;> simp
theorem at_len {l : List UInt8} {m : Nat} (h : l.length < 1 ∨ m ≤ l.length) : begAt l m = false := by
  unfold begAt
  rw [decide_eq_false (by omega)]
  rfl
theorem at_formed {l : List UInt8} {m : Nat} (h : formedB l m = false) : begAt l m = false := by
  unfold begAt
  rw [h]
  simp
theorem at_room {l : List UInt8} {m : Nat} {x y : Int} (h1 : 1 ≤ l.length) (h2 : l.length < m) (hf : formedB l m = true) (hx : clampLo m (bitsZ (fill l m 128)) = x) (hy : clampHi m (bitsZ (fill l m 191)) = y) : begAt l m = (decide (x ≤ y) && !(surB x && surB y)) := by
  unfold begAt roomB
  rw [hf, hx, hy, decide_eq_true ⟨h1, h2⟩]
  rfl
theorem bits_le2 (l : List UInt8) (h : l.length = 2) : bitsZ l ≤ 2047 := by
  match l, h with
  | [a, b], _ => rw [bits_two]; have := a.toNat_lt; have := b.toNat_lt; omega
theorem bits_le3 (l : List UInt8) (h : l.length = 3) : bitsZ l ≤ 65535 := by
  match l, h with
  | [a, b, c], _ => rw [bits_three]; have := a.toNat_lt; have := b.toNat_lt; have := c.toNat_lt; omega
theorem bits_le4 (l : List UInt8) (h : l.length = 4) : bitsZ l ≤ 2097151 := by
  match l, h with
  | [a, b, c, d], _ => rw [bits_four]; have := a.toNat_lt; have := b.toNat_lt; have := c.toNat_lt; have := d.toNat_lt; omega
theorem fill_mono2 (l : List UInt8) {n : Nat} (h1 : 1 ≤ n) (h2 : n < 2) (hl : l.length = n) : bitsZ (fill l 2 128) ≤ bitsZ (fill l 2 191) := by
  match l, hl with
  | [], h => simp at h; omega
  | [a], _ => rw [show fill [a] 2 128 = [a, 128] from rfl, show fill [a] 2 191 = [a, 191] from rfl, bits_two, bits_two, u128, u191]; omega
  | a :: b :: r, h => simp at h; omega
theorem fill_mono3 (l : List UInt8) {n : Nat} (h1 : 1 ≤ n) (h2 : n < 3) (hl : l.length = n) : bitsZ (fill l 3 128) ≤ bitsZ (fill l 3 191) := by
  match l, hl with
  | [], h => simp at h; omega
  | [a], _ => rw [show fill [a] 3 128 = [a, 128, 128] from rfl, show fill [a] 3 191 = [a, 191, 191] from rfl, bits_three, bits_three, u128, u191]; omega
  | [a, b], _ => rw [show fill [a, b] 3 128 = [a, b, 128] from rfl, show fill [a, b] 3 191 = [a, b, 191] from rfl, bits_three, bits_three, u128, u191]; omega
  | a :: b :: c :: r, h => simp at h; omega
theorem fill_mono4 (l : List UInt8) {n : Nat} (h1 : 1 ≤ n) (h2 : n < 4) (hl : l.length = n) : bitsZ (fill l 4 128) ≤ bitsZ (fill l 4 191) := by
  match l, hl with
  | [], h => simp at h; omega
  | [a], _ => rw [show fill [a] 4 128 = [a, 128, 128, 128] from rfl, show fill [a] 4 191 = [a, 191, 191, 191] from rfl, bits_four, bits_four, u128, u191]; omega
  | [a, b], _ => rw [show fill [a, b] 4 128 = [a, b, 128, 128] from rfl, show fill [a, b] 4 191 = [a, b, 191, 191] from rfl, bits_four, bits_four, u128, u191]; omega
  | [a, b, c], _ => rw [show fill [a, b, c] 4 128 = [a, b, c, 128] from rfl, show fill [a, b, c] 4 191 = [a, b, c, 191] from rfl, bits_four, bits_four, u128, u191]; omega
  | a :: b :: c :: d :: r, h => simp at h; omega
theorem sur_no {x : Int} (h : x < 55296 ∨ 57343 < x) : surB x = false := by
  cases hs : surB x with
  | false => rfl
  | true => rw [surB_iff] at hs; omega
set_option maxRecDepth 100000 in
set_option maxHeartbeats 20000000 in
theorem begins_any (A : Option Addr) (n c : Nat) (l : List UInt8) (w : World) (hl : By w A n l) (hn : n ≤ 9223372036854775806) :
    Calls Tryd.prog 26 #[.slice A n c] w fun e w' => e = .returned (.bool (begB l)) ∧ Nx w w' := by
  have LX := Lib.hid hl.len
  obtain ⟨B, hB⟩ : ∃ B, Hid (begB l = B) := ⟨_, rfl⟩
  rw [hB.out]
  go_enter Tryd.func26, Tryd.ntmps26
  go_wp2_with fail
  go_loopw [3] (fun v wr => ∃ j : Nat, 2 ≤ j ∧ j ≤ 5 ∧ v = .int .i64 j ∧ Nx w wr ∧ Hid (NoneTo l j)) (fun v _ => 5 - (RowKit.intOf v).toNat)
  case atStart => exact ⟨2, by omega, by omega, rfl, Nx.refl _, fun m h1 h2 => by omega⟩
  case round =>
    obtain ⟨j, h2, h5, rfl, hnx, hprev⟩ := hrel
    have hj : j = 2 ∨ j = 3 ∨ j = 4 ∨ j = 5 := by omega
    rcases hj with rfl | rfl | rfl | rfl
    · by_cases hk1 : n < 1
      · have hinv := Lib.hid (hprev.out.step (at_len (m := 2) (by rw [LX.out]; exact Or.inl hk1)))
        go_wp2_with fail
        go_roundw
        case rel => exact ⟨2 + 1, by omega, by omega, rfl, hnx, hinv⟩
        case measure => simp [RowKit.intOf]
      · by_cases hk2 : 2 ≤ n
        · have hinv := Lib.hid (hprev.out.step (at_len (m := 2) (by rw [LX.out]; exact Or.inr hk2)))
          have z1 : decide ((n : Int) < 1) = false := by simp; omega
          have z2 : (2 : Int) ≤ (n : Int) := by omega
          go_wp2_with fail
          go_roundw
          case rel => exact ⟨2 + 1, by omega, by omega, rfl, hnx, hinv⟩
          case measure => simp [RowKit.intOf]
        · have hk1 : 1 ≤ n := by omega
          have hk2 : n < 2 := by omega
          have z1 : decide ((n : Int) < 1) = false := by simp; omega
          have z2 : decide ((2 : Int) ≤ (n : Int)) = false := by simp; omega
          obtain ⟨F, hF⟩ : ∃ F, Hid (formedB l 2 = F) := ⟨_, rfl⟩
          go_wp2_with fail
          refine (formed_any _ _ _ l 2 _ (hl.next hnx) hk1 (by omega) (by omega)).mono ?_
          rw [hF.out]
          rintro e w1 ⟨rfl, x1⟩
          have y1 := hnx.trans x1
          cases F with
          | false =>
            have hinv := Lib.hid (hprev.out.step (at_formed hF.out))
            go_wp2_with fail
            go_roundw
            case rel => exact ⟨2 + 1, by omega, by omega, rfl, y1, hinv⟩
            case measure => simp [RowKit.intOf]
          | true =>
            obtain ⟨L, hL⟩ : ∃ L, Hid (bitsZ (fill l 2 128) = L) := ⟨_, rfl⟩
            obtain ⟨M, hM⟩ : ∃ M, Hid (bitsZ (fill l 2 191) = M) := ⟨_, rfl⟩
            have fl1 : (fill l 2 128).length = 2 := fill_len l 2 128 (by rw [LX.out]; omega)
            have fl2 : (fill l 2 191).length = 2 := fill_len l 2 191 (by rw [LX.out]; omega)
            have hLr : 0 ≤ L ∧ L ≤ 2097151 := by rw [← hL.out]; exact bits_range4 _ (by omega) (by omega)
            have hMr : 0 ≤ M ∧ M ≤ 2097151 := by rw [← hM.out]; exact bits_range4 _ (by omega) (by omega)
            have FL1 := Lib.hid fl1
            have FL2 := Lib.hid fl2
            clear fl1 fl2
            go_wp2_with fail
            refine (filled_any _ _ _ l 2 128 128 (by show _ = _; decide) _ (hl.next y1) (by omega) (by omega)).mono ?_
            rintro e w2 ⟨A2, n2, c2, rfl, o2, x2⟩
            have hn2 : n2 = 2 := by have := o2.len; rw [nums_length, FL1.out] at this; exact this
            subst hn2
            have y2 := y1.trans x2
            go_wp2_with fail
            refine (bits_any _ _ _ (fill l 2 128) _ o2.sl (by omega) (by omega)).mono ?_
            rw [hL.out]
            rintro e w' ⟨rfl, rfl⟩
            go_wp2_with fail
            refine (filled_any _ _ _ l 2 191 191 (by show _ = _; decide) _ (hl.next y2) (by omega) (by omega)).mono ?_
            rintro e w3 ⟨A3, n3, c3, rfl, o3, x3⟩
            have hn3 : n3 = 2 := by have := o3.len; rw [nums_length, FL2.out] at this; exact this
            subst hn3
            have y4 := y2.trans x3
            go_wp2_with fail
            refine (bits_any _ _ _ (fill l 2 191) _ o3.sl (by omega) (by omega)).mono ?_
            rw [hM.out]
            rintro e w' ⟨rfl, rfl⟩
            obtain ⟨L0, _⟩ := hLr
            obtain ⟨M0, _⟩ := hMr
            have L1 : L ≤ 2047 := by rw [← hL.out]; exact bits_le2 _ FL1.out
            have M1 : M ≤ 2047 := by rw [← hM.out]; exact bits_le2 _ FL2.out
            have hle : L ≤ M := by rw [← hL.out, ← hM.out]; exact fill_mono2 l hk1 hk2 LX.out
            clear o2 o3 x1 x2 x3 y1 y2 hnx z1 z2
            by_cases hLo : L < 128
            · have hXX : Hid (clampLo 2 (bitsZ (fill l 2 128)) = 128) := by show _ = _; rw [hL.out]; unfold clampLo lowZ; simp <;> omega
              have hYY : Hid (clampHi 2 (bitsZ (fill l 2 191)) = M) := by show _ = _; rw [hM.out]; unfold clampHi highZ; simp <;> omega
              have hR := Lib.hid (at_room (by rw [LX.out]; exact hk1) (by rw [LX.out]; exact hk2) hF.out hXX.out hYY.out)
              have hsx : surB 128 = false := sur_no (by omega)
              rw [hsx, Bool.false_and, Bool.not_false, Bool.and_true] at hR
              by_cases hle2 : (128 : Int) ≤ M
              · have hle' : decide ((128 : Int) ≤ M) = true := decide_eq_true (hle2)
                rw [hle'] at hR
                obtain rfl : B = true := by rw [← hB.out]; exact beg_yes (m := 2) (by omega) hR.out
                go_wp2_with (go_at_call 50; refine (surrogate_any 128 _).mono ?_; rw [hsx]; rintro e w' ⟨rfl, rfl⟩)
                go_ret
                exact ⟨rfl, (y4.alloc _).alloc _⟩
              · have hlz : decide ((128 : Int) ≤ M) = false := decide_eq_false hle2
                rw [hlz] at hR
                have hinv := Lib.hid (hprev.out.step hR.out)
                go_wp2_with fail
                go_roundw
                case rel => exact ⟨2 + 1, by omega, by omega, rfl, (y4.alloc _).alloc _, hinv⟩
                case measure => simp [RowKit.intOf]
            · have hXX : Hid (clampLo 2 (bitsZ (fill l 2 128)) = L) := by show _ = _; rw [hL.out]; unfold clampLo lowZ; simp <;> omega
              have hYY : Hid (clampHi 2 (bitsZ (fill l 2 191)) = M) := by show _ = _; rw [hM.out]; unfold clampHi highZ; simp <;> omega
              have hR := Lib.hid (at_room (by rw [LX.out]; exact hk1) (by rw [LX.out]; exact hk2) hF.out hXX.out hYY.out)
              have hsx : surB L = false := sur_no (by omega)
              rw [hsx, Bool.false_and, Bool.not_false, Bool.and_true] at hR
              have hle' : decide ((L : Int) ≤ M) = true := decide_eq_true (hle)
              rw [hle'] at hR
              obtain rfl : B = true := by rw [← hB.out]; exact beg_yes (m := 2) (by omega) hR.out
              go_wp2_with (go_at_call 50; refine (surrogate_any L _).mono ?_; rw [hsx]; rintro e w' ⟨rfl, rfl⟩)
              go_ret
              exact ⟨rfl, (y4.alloc _).alloc _⟩
    · by_cases hk1 : n < 1
      · have hinv := Lib.hid (hprev.out.step (at_len (m := 3) (by rw [LX.out]; exact Or.inl hk1)))
        go_wp2_with fail
        go_roundw
        case rel => exact ⟨3 + 1, by omega, by omega, rfl, hnx, hinv⟩
        case measure => simp [RowKit.intOf]
      · by_cases hk2 : 3 ≤ n
        · have hinv := Lib.hid (hprev.out.step (at_len (m := 3) (by rw [LX.out]; exact Or.inr hk2)))
          have z1 : decide ((n : Int) < 1) = false := by simp; omega
          have z2 : (3 : Int) ≤ (n : Int) := by omega
          go_wp2_with fail
          go_roundw
          case rel => exact ⟨3 + 1, by omega, by omega, rfl, hnx, hinv⟩
          case measure => simp [RowKit.intOf]
        · have hk1 : 1 ≤ n := by omega
          have hk2 : n < 3 := by omega
          have z1 : decide ((n : Int) < 1) = false := by simp; omega
          have z2 : decide ((3 : Int) ≤ (n : Int)) = false := by simp; omega
          obtain ⟨F, hF⟩ : ∃ F, Hid (formedB l 3 = F) := ⟨_, rfl⟩
          go_wp2_with fail
          refine (formed_any _ _ _ l 3 _ (hl.next hnx) hk1 (by omega) (by omega)).mono ?_
          rw [hF.out]
          rintro e w1 ⟨rfl, x1⟩
          have y1 := hnx.trans x1
          cases F with
          | false =>
            have hinv := Lib.hid (hprev.out.step (at_formed hF.out))
            go_wp2_with fail
            go_roundw
            case rel => exact ⟨3 + 1, by omega, by omega, rfl, y1, hinv⟩
            case measure => simp [RowKit.intOf]
          | true =>
            obtain ⟨L, hL⟩ : ∃ L, Hid (bitsZ (fill l 3 128) = L) := ⟨_, rfl⟩
            obtain ⟨M, hM⟩ : ∃ M, Hid (bitsZ (fill l 3 191) = M) := ⟨_, rfl⟩
            have fl1 : (fill l 3 128).length = 3 := fill_len l 3 128 (by rw [LX.out]; omega)
            have fl2 : (fill l 3 191).length = 3 := fill_len l 3 191 (by rw [LX.out]; omega)
            have hLr : 0 ≤ L ∧ L ≤ 2097151 := by rw [← hL.out]; exact bits_range4 _ (by omega) (by omega)
            have hMr : 0 ≤ M ∧ M ≤ 2097151 := by rw [← hM.out]; exact bits_range4 _ (by omega) (by omega)
            have FL1 := Lib.hid fl1
            have FL2 := Lib.hid fl2
            clear fl1 fl2
            go_wp2_with fail
            refine (filled_any _ _ _ l 3 128 128 (by show _ = _; decide) _ (hl.next y1) (by omega) (by omega)).mono ?_
            rintro e w2 ⟨A2, n2, c2, rfl, o2, x2⟩
            have hn2 : n2 = 3 := by have := o2.len; rw [nums_length, FL1.out] at this; exact this
            subst hn2
            have y2 := y1.trans x2
            go_wp2_with fail
            refine (bits_any _ _ _ (fill l 3 128) _ o2.sl (by omega) (by omega)).mono ?_
            rw [hL.out]
            rintro e w' ⟨rfl, rfl⟩
            go_wp2_with fail
            refine (filled_any _ _ _ l 3 191 191 (by show _ = _; decide) _ (hl.next y2) (by omega) (by omega)).mono ?_
            rintro e w3 ⟨A3, n3, c3, rfl, o3, x3⟩
            have hn3 : n3 = 3 := by have := o3.len; rw [nums_length, FL2.out] at this; exact this
            subst hn3
            have y4 := y2.trans x3
            go_wp2_with fail
            refine (bits_any _ _ _ (fill l 3 191) _ o3.sl (by omega) (by omega)).mono ?_
            rw [hM.out]
            rintro e w' ⟨rfl, rfl⟩
            obtain ⟨L0, _⟩ := hLr
            obtain ⟨M0, _⟩ := hMr
            have L1 : L ≤ 65535 := by rw [← hL.out]; exact bits_le3 _ FL1.out
            have M1 : M ≤ 65535 := by rw [← hM.out]; exact bits_le3 _ FL2.out
            have hle : L ≤ M := by rw [← hL.out, ← hM.out]; exact fill_mono3 l hk1 hk2 LX.out
            clear o2 o3 x1 x2 x3 y1 y2 hnx z1 z2
            by_cases hLo : L < 2048
            · have hXX : Hid (clampLo 3 (bitsZ (fill l 3 128)) = 2048) := by show _ = _; rw [hL.out]; unfold clampLo lowZ; simp <;> omega
              have hYY : Hid (clampHi 3 (bitsZ (fill l 3 191)) = M) := by show _ = _; rw [hM.out]; unfold clampHi highZ; simp <;> omega
              have hR := Lib.hid (at_room (by rw [LX.out]; exact hk1) (by rw [LX.out]; exact hk2) hF.out hXX.out hYY.out)
              have hsx : surB 2048 = false := sur_no (by omega)
              rw [hsx, Bool.false_and, Bool.not_false, Bool.and_true] at hR
              by_cases hle2 : (2048 : Int) ≤ M
              · have hle' : decide ((2048 : Int) ≤ M) = true := decide_eq_true (hle2)
                rw [hle'] at hR
                obtain rfl : B = true := by rw [← hB.out]; exact beg_yes (m := 3) (by omega) hR.out
                go_wp2_with (go_at_call 50; refine (surrogate_any 2048 _).mono ?_; rw [hsx]; rintro e w' ⟨rfl, rfl⟩)
                go_ret
                exact ⟨rfl, (y4.alloc _).alloc _⟩
              · have hlz : decide ((2048 : Int) ≤ M) = false := decide_eq_false hle2
                rw [hlz] at hR
                have hinv := Lib.hid (hprev.out.step hR.out)
                go_wp2_with fail
                go_roundw
                case rel => exact ⟨3 + 1, by omega, by omega, rfl, (y4.alloc _).alloc _, hinv⟩
                case measure => simp [RowKit.intOf]
            · have hXX : Hid (clampLo 3 (bitsZ (fill l 3 128)) = L) := by show _ = _; rw [hL.out]; unfold clampLo lowZ; simp <;> omega
              have hYY : Hid (clampHi 3 (bitsZ (fill l 3 191)) = M) := by show _ = _; rw [hM.out]; unfold clampHi highZ; simp <;> omega
              have hR := Lib.hid (at_room (by rw [LX.out]; exact hk1) (by rw [LX.out]; exact hk2) hF.out hXX.out hYY.out)
              have hle' : decide (L ≤ M) = true := decide_eq_true hle
              rw [hle', Bool.true_and] at hR
              cases hsx : surB L with
              | true =>
                cases hsy : surB M with
                | true =>
                  rw [hsx, hsy, Bool.and_true, Bool.not_true] at hR
                  have hinv := Lib.hid (hprev.out.step hR.out)
                  go_wp2_with (first | (go_at_call 50; refine (surrogate_any L _).mono ?_; rw [hsx]; rintro e w' ⟨rfl, rfl⟩) | (go_at_call 50; refine (surrogate_any M _).mono ?_; rw [hsy]; rintro e w' ⟨rfl, rfl⟩))
                  go_roundw
                  case rel => exact ⟨3 + 1, by omega, by omega, rfl, (y4.alloc _).alloc _, hinv⟩
                  case measure => simp [RowKit.intOf]
                | false =>
                  rw [hsx, hsy] at hR
                  obtain rfl : B = true := by rw [← hB.out]; exact beg_yes (m := 3) (by omega) (by rw [hR.out]; rfl)
                  go_wp2_with (first | (go_at_call 50; refine (surrogate_any L _).mono ?_; rw [hsx]; rintro e w' ⟨rfl, rfl⟩) | (go_at_call 50; refine (surrogate_any M _).mono ?_; rw [hsy]; rintro e w' ⟨rfl, rfl⟩))
                  go_ret
                  exact ⟨rfl, (y4.alloc _).alloc _⟩
              | false =>
                rw [hsx] at hR
                obtain rfl : B = true := by rw [← hB.out]; exact beg_yes (m := 3) (by omega) (by rw [hR.out]; rfl)
                go_wp2_with (go_at_call 50; refine (surrogate_any L _).mono ?_; rw [hsx]; rintro e w' ⟨rfl, rfl⟩)
                go_ret
                exact ⟨rfl, (y4.alloc _).alloc _⟩
    · by_cases hk1 : n < 1
      · have hinv := Lib.hid (hprev.out.step (at_len (m := 4) (by rw [LX.out]; exact Or.inl hk1)))
        go_wp2_with fail
        go_roundw
        case rel => exact ⟨4 + 1, by omega, by omega, rfl, hnx, hinv⟩
        case measure => simp [RowKit.intOf]
      · by_cases hk2 : 4 ≤ n
        · have hinv := Lib.hid (hprev.out.step (at_len (m := 4) (by rw [LX.out]; exact Or.inr hk2)))
          have z1 : decide ((n : Int) < 1) = false := by simp; omega
          have z2 : (4 : Int) ≤ (n : Int) := by omega
          go_wp2_with fail
          go_roundw
          case rel => exact ⟨4 + 1, by omega, by omega, rfl, hnx, hinv⟩
          case measure => simp [RowKit.intOf]
        · have hk1 : 1 ≤ n := by omega
          have hk2 : n < 4 := by omega
          have z1 : decide ((n : Int) < 1) = false := by simp; omega
          have z2 : decide ((4 : Int) ≤ (n : Int)) = false := by simp; omega
          obtain ⟨F, hF⟩ : ∃ F, Hid (formedB l 4 = F) := ⟨_, rfl⟩
          go_wp2_with fail
          refine (formed_any _ _ _ l 4 _ (hl.next hnx) hk1 (by omega) (by omega)).mono ?_
          rw [hF.out]
          rintro e w1 ⟨rfl, x1⟩
          have y1 := hnx.trans x1
          cases F with
          | false =>
            have hinv := Lib.hid (hprev.out.step (at_formed hF.out))
            go_wp2_with fail
            go_roundw
            case rel => exact ⟨4 + 1, by omega, by omega, rfl, y1, hinv⟩
            case measure => simp [RowKit.intOf]
          | true =>
            obtain ⟨L, hL⟩ : ∃ L, Hid (bitsZ (fill l 4 128) = L) := ⟨_, rfl⟩
            obtain ⟨M, hM⟩ : ∃ M, Hid (bitsZ (fill l 4 191) = M) := ⟨_, rfl⟩
            have fl1 : (fill l 4 128).length = 4 := fill_len l 4 128 (by rw [LX.out]; omega)
            have fl2 : (fill l 4 191).length = 4 := fill_len l 4 191 (by rw [LX.out]; omega)
            have hLr : 0 ≤ L ∧ L ≤ 2097151 := by rw [← hL.out]; exact bits_range4 _ (by omega) (by omega)
            have hMr : 0 ≤ M ∧ M ≤ 2097151 := by rw [← hM.out]; exact bits_range4 _ (by omega) (by omega)
            have FL1 := Lib.hid fl1
            have FL2 := Lib.hid fl2
            clear fl1 fl2
            go_wp2_with fail
            refine (filled_any _ _ _ l 4 128 128 (by show _ = _; decide) _ (hl.next y1) (by omega) (by omega)).mono ?_
            rintro e w2 ⟨A2, n2, c2, rfl, o2, x2⟩
            have hn2 : n2 = 4 := by have := o2.len; rw [nums_length, FL1.out] at this; exact this
            subst hn2
            have y2 := y1.trans x2
            go_wp2_with fail
            refine (bits_any _ _ _ (fill l 4 128) _ o2.sl (by omega) (by omega)).mono ?_
            rw [hL.out]
            rintro e w' ⟨rfl, rfl⟩
            go_wp2_with fail
            refine (filled_any _ _ _ l 4 191 191 (by show _ = _; decide) _ (hl.next y2) (by omega) (by omega)).mono ?_
            rintro e w3 ⟨A3, n3, c3, rfl, o3, x3⟩
            have hn3 : n3 = 4 := by have := o3.len; rw [nums_length, FL2.out] at this; exact this
            subst hn3
            have y4 := y2.trans x3
            go_wp2_with fail
            refine (bits_any _ _ _ (fill l 4 191) _ o3.sl (by omega) (by omega)).mono ?_
            rw [hM.out]
            rintro e w' ⟨rfl, rfl⟩
            obtain ⟨L0, _⟩ := hLr
            obtain ⟨M0, _⟩ := hMr
            have L1 : L ≤ 2097151 := by rw [← hL.out]; exact bits_le4 _ FL1.out
            have M1 : M ≤ 2097151 := by rw [← hM.out]; exact bits_le4 _ FL2.out
            have hle : L ≤ M := by rw [← hL.out, ← hM.out]; exact fill_mono4 l hk1 hk2 LX.out
            clear o2 o3 x1 x2 x3 y1 y2 hnx z1 z2
            by_cases hLo : L < 65536
            · by_cases hHi : 1114111 < M
              · have hXX : Hid (clampLo 4 (bitsZ (fill l 4 128)) = 65536) := by show _ = _; rw [hL.out]; unfold clampLo lowZ; simp <;> omega
                have hYY : Hid (clampHi 4 (bitsZ (fill l 4 191)) = 1114111) := by show _ = _; rw [hM.out]; unfold clampHi highZ; simp <;> omega
                have hR := Lib.hid (at_room (by rw [LX.out]; exact hk1) (by rw [LX.out]; exact hk2) hF.out hXX.out hYY.out)
                have hsx : surB 65536 = false := sur_no (by omega)
                rw [hsx, Bool.false_and, Bool.not_false, Bool.and_true] at hR
                have hle' : decide ((65536 : Int) ≤ 1114111) = true := decide_eq_true (by decide)
                rw [hle'] at hR
                obtain rfl : B = true := by rw [← hB.out]; exact beg_yes (m := 4) (by omega) hR.out
                go_wp2_with (go_at_call 50; refine (surrogate_any 65536 _).mono ?_; rw [hsx]; rintro e w' ⟨rfl, rfl⟩)
                go_ret
                exact ⟨rfl, (y4.alloc _).alloc _⟩
              · have hXX : Hid (clampLo 4 (bitsZ (fill l 4 128)) = 65536) := by show _ = _; rw [hL.out]; unfold clampLo lowZ; simp <;> omega
                have hYY : Hid (clampHi 4 (bitsZ (fill l 4 191)) = M) := by show _ = _; rw [hM.out]; unfold clampHi highZ; simp <;> omega
                have hR := Lib.hid (at_room (by rw [LX.out]; exact hk1) (by rw [LX.out]; exact hk2) hF.out hXX.out hYY.out)
                have hsx : surB 65536 = false := sur_no (by omega)
                rw [hsx, Bool.false_and, Bool.not_false, Bool.and_true] at hR
                by_cases hle2 : (65536 : Int) ≤ M
                · have hle' : decide ((65536 : Int) ≤ M) = true := decide_eq_true (hle2)
                  rw [hle'] at hR
                  obtain rfl : B = true := by rw [← hB.out]; exact beg_yes (m := 4) (by omega) hR.out
                  go_wp2_with (go_at_call 50; refine (surrogate_any 65536 _).mono ?_; rw [hsx]; rintro e w' ⟨rfl, rfl⟩)
                  go_ret
                  exact ⟨rfl, (y4.alloc _).alloc _⟩
                · have hlz : decide ((65536 : Int) ≤ M) = false := decide_eq_false hle2
                  rw [hlz] at hR
                  have hinv := Lib.hid (hprev.out.step hR.out)
                  go_wp2_with fail
                  go_roundw
                  case rel => exact ⟨4 + 1, by omega, by omega, rfl, (y4.alloc _).alloc _, hinv⟩
                  case measure => simp [RowKit.intOf]
            · by_cases hHi : 1114111 < M
              · have hXX : Hid (clampLo 4 (bitsZ (fill l 4 128)) = L) := by show _ = _; rw [hL.out]; unfold clampLo lowZ; simp <;> omega
                have hYY : Hid (clampHi 4 (bitsZ (fill l 4 191)) = 1114111) := by show _ = _; rw [hM.out]; unfold clampHi highZ; simp <;> omega
                have hR := Lib.hid (at_room (by rw [LX.out]; exact hk1) (by rw [LX.out]; exact hk2) hF.out hXX.out hYY.out)
                have hsx : surB L = false := sur_no (by omega)
                rw [hsx, Bool.false_and, Bool.not_false, Bool.and_true] at hR
                by_cases hle2 : (L : Int) ≤ 1114111
                · have hle' : decide ((L : Int) ≤ 1114111) = true := decide_eq_true (hle2)
                  rw [hle'] at hR
                  obtain rfl : B = true := by rw [← hB.out]; exact beg_yes (m := 4) (by omega) hR.out
                  go_wp2_with (go_at_call 50; refine (surrogate_any L _).mono ?_; rw [hsx]; rintro e w' ⟨rfl, rfl⟩)
                  go_ret
                  exact ⟨rfl, (y4.alloc _).alloc _⟩
                · have hlz : decide ((L : Int) ≤ 1114111) = false := decide_eq_false hle2
                  rw [hlz] at hR
                  have hinv := Lib.hid (hprev.out.step hR.out)
                  go_wp2_with fail
                  go_roundw
                  case rel => exact ⟨4 + 1, by omega, by omega, rfl, (y4.alloc _).alloc _, hinv⟩
                  case measure => simp [RowKit.intOf]
              · have hXX : Hid (clampLo 4 (bitsZ (fill l 4 128)) = L) := by show _ = _; rw [hL.out]; unfold clampLo lowZ; simp <;> omega
                have hYY : Hid (clampHi 4 (bitsZ (fill l 4 191)) = M) := by show _ = _; rw [hM.out]; unfold clampHi highZ; simp <;> omega
                have hR := Lib.hid (at_room (by rw [LX.out]; exact hk1) (by rw [LX.out]; exact hk2) hF.out hXX.out hYY.out)
                have hsx : surB L = false := sur_no (by omega)
                rw [hsx, Bool.false_and, Bool.not_false, Bool.and_true] at hR
                have hle' : decide ((L : Int) ≤ M) = true := decide_eq_true (hle)
                rw [hle'] at hR
                obtain rfl : B = true := by rw [← hB.out]; exact beg_yes (m := 4) (by omega) hR.out
                go_wp2_with (go_at_call 50; refine (surrogate_any L _).mono ?_; rw [hsx]; rintro e w' ⟨rfl, rfl⟩)
                go_ret
                exact ⟨rfl, (y4.alloc _).alloc _⟩
    · obtain rfl : B = false := by rw [← hB.out]; exact hprev.out.all
      go_wp2_with fail
      go_ret
      exact ⟨rfl, hnx⟩
end Go.Proofs.YtgjdlcnmfpbbhaaDoor
