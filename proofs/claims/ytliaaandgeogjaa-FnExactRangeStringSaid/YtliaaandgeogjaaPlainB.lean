/- Plain facts: the number that the bits of one to four bytes tell, and which bytes are the encoding of a good rune, from the front and from the end. -/
import Derived.Test.YtliaaandgeogjaaPlain
namespace Go.Proofs.Ytliaaandgeogjaa
open Go.Lib
set_option linter.unusedVariables false
/-- The first byte's share, by how many bytes there are. -/
def bits0 (n : Nat) (b : Int) : Int := if n = 2 then b % 32 else if n = 3 then b % 16 else if n = 4 then b % 8 else b
def bitsTo (l : List UInt8) : Nat → Int
  | 0 => bits0 l.length ((l.getD 0 0).toNat : Int)
  | k + 1 => 64 * bitsTo l k + ((l.getD (k + 1) 0).toNat : Int) % 64
def bitsZ (l : List UInt8) : Int := bitsTo l (l.length - 1)
theorem bitsTo_range (l : List UInt8) (k : Nat) (hl : l.length ≤ 4) (hk : k < l.length) : 0 ≤ bitsTo l k ∧ bitsTo l k ≤ 2097151 := by
  have b0 := (l.getD 0 0).toNat_lt
  have b1 := (l.getD 1 0).toNat_lt
  have b2 := (l.getD 2 0).toNat_lt
  have b3 := (l.getD 3 0).toNat_lt
  have hc : k = 0 ∨ k = 1 ∨ k = 2 ∨ k = 3 := by omega
  rcases hc with rfl | rfl | rfl | rfl
  · simp only [bitsTo, bits0]
    repeat' split
    all_goals omega
  · simp only [bitsTo, bits0]
    repeat' split
    all_goals omega
  · simp only [bitsTo, bits0]
    repeat' split
    all_goals omega
  · simp only [bitsTo, bits0]
    repeat' split
    all_goals omega
theorem bits_enc {r : Int} (h : goodB r = true) : bitsZ (encodeRune r) = r := by
  rcases good_cases h with h | h | h | h
  · rw [enc_one h.1 h.2]
    show (((UInt8.ofNat r.toNat).toNat : Nat) : Int) = r
    rw [ofNat_toNat (by omega)]
    omega
  · rw [enc_two h.1 h.2]
    show 64 * (((UInt8.ofNat (192 + r / 64).toNat).toNat : Int) % 32) + ((UInt8.ofNat (128 + r % 64).toNat).toNat : Int) % 64 = r
    rw [ofNat_toNat (by omega), ofNat_toNat (by omega)]
    omega
  · rw [enc_three h]
    show 64 * (64 * (((UInt8.ofNat (224 + r / 4096).toNat).toNat : Int) % 16) + ((UInt8.ofNat (128 + r / 64 % 64).toNat).toNat : Int) % 64) + ((UInt8.ofNat (128 + r % 64).toNat).toNat : Int) % 64 = r
    rw [ofNat_toNat (by omega), ofNat_toNat (by omega), ofNat_toNat (by omega)]
    omega
  · rw [enc_four h.1 h.2]
    show 64 * (64 * (64 * (((UInt8.ofNat (240 + r / 262144).toNat).toNat : Int) % 8) + ((UInt8.ofNat (128 + r / 4096 % 64).toNat).toNat : Int) % 64) + ((UInt8.ofNat (128 + r / 64 % 64).toNat).toNat : Int) % 64) + ((UInt8.ofNat (128 + r % 64).toNat).toNat : Int) % 64 = r
    rw [ofNat_toNat (by omega), ofNat_toNat (by omega), ofNat_toNat (by omega), ofNat_toNat (by omega)]
    omega
/-- Some bytes are the encoding of a good rune. -/
def wholeB (l : List UInt8) : Bool := goodB (bitsZ l) && decide (encodeRune (bitsZ l) = l)
def wholeR (l : List UInt8) : Int := if wholeB l then bitsZ l else 0
theorem wholeB_iff {l : List UInt8} : wholeB l = true ↔ ∃ r : Int, goodB r = true ∧ encodeRune r = l := by
  unfold wholeB
  rw [Bool.and_eq_true, decide_eq_true_eq]
  constructor
  · rintro ⟨h1, h2⟩; exact ⟨_, h1, h2⟩
  · rintro ⟨r, hr, rfl⟩
    rw [bits_enc hr]
    exact ⟨hr, rfl⟩
theorem whole_enc {r : Int} (h : goodB r = true) : wholeB (encodeRune r) = true ∧ wholeR (encodeRune r) = r := by
  have h1 : wholeB (encodeRune r) = true := wholeB_iff.2 ⟨r, h, rfl⟩
  refine ⟨h1, ?_⟩
  unfold wholeR
  rw [if_pos h1, bits_enc h]
theorem whole_len {l : List UInt8} (h : l.length < 1 ∨ 4 < l.length) : wholeB l = false := by
  cases hw : wholeB l with
  | false => rfl
  | true =>
    obtain ⟨r, _, rfl⟩ := wholeB_iff.1 hw
    have := enc_length r
    omega
theorem whole_not {l : List UInt8} (h : wholeB l = false) : wholeR l = 0 := by simp [wholeR, h]
theorem whole_bad {l : List UInt8} (h : goodB (bitsZ l) = false) : wholeB l = false := by simp [wholeB, h]
theorem whole_eq {l : List UInt8} (h : goodB (bitsZ l) = true) : wholeB l = decide (encodeRune (bitsZ l) = l) := by simp [wholeB, h]
theorem wholeR_good {l : List UInt8} (h : wholeB l = true) : goodB (wholeR l) = true ∧ encodeRune (wholeR l) = l := by
  obtain ⟨r, hr, rfl⟩ := wholeB_iff.1 h
  rw [(whole_enc hr).2]
  exact ⟨hr, rfl⟩
/-- An encoding in front: what is decoded is its rune. -/
theorem dec_found {l : List UInt8} {k : Nat} (h : wholeB (l.take k) = true) (hk : k ≤ l.length) : dec l = ((wholeR (l.take k)).toNat, k) ∧ ((wholeR (l.take k)).toNat : Int) = wholeR (l.take k) := by
  obtain ⟨hg, he⟩ := wholeR_good h
  obtain ⟨r, hr⟩ : ∃ r, wholeR (l.take k) = r := ⟨_, rfl⟩
  rw [hr] at hg he ⊢
  have hl : l = encodeRune r ++ l.drop k := by rw [he, List.take_append_drop]
  have hlen : (encodeRune r).length = k := by rw [he, List.length_take]; omega
  have hne : l ≠ [] := by
    intro h0
    rw [h0] at hl
    exact enc_ne r (List.append_eq_nil_iff.1 hl.symm).1
  have hd := dec_enc hg (l.drop k)
  rw [← hl, hlen] at hd
  refine ⟨by rw [dec_of hne]; exact hd, ?_⟩
  rw [goodB_iff] at hg
  omega
theorem dec_rune_le (l : List UInt8) : (dec l).1 ≤ 1114111 := by
  unfold dec
  split
  · decide
  · exact decodeL_rune l
theorem dec_not {l : List UInt8} (hne : l ≠ []) (h : ∀ j, 1 ≤ j → j ≤ 4 → j ≤ l.length → wholeB (l.take j) = false) : dec l = (65533, 1) := by
  rw [dec_of hne]
  rcases dec_cases l hne with ⟨r, q, hr, hl, _, _⟩ | ⟨_, hd, _⟩
  · exfalso
    have hen := enc_length r
    have hle : (encodeRune r).length ≤ l.length := by rw [hl, List.length_append]; omega
    have := h _ hen.1 hen.2 hle
    rw [hl, List.take_left, (whole_enc hr).1] at this
    cases this
  · exact hd

/-! ### From the end -/
theorem enc_tail {r : Int} (h : goodB r = true) (k : Nat) (h1 : 1 ≤ k) (hk : k < (encodeRune r).length) : ((encodeRune r).getD k 0).toNat / 64 = 2 := by
  rcases good_cases h with h | h | h | h
  · rw [enc_one h.1 h.2] at hk; simp at hk; omega
  · rw [enc_two h.1 h.2] at hk ⊢
    simp only [List.length_cons, List.length_nil] at hk
    obtain rfl : k = 1 := by omega
    simp only [List.getD_cons_succ, List.getD_cons_zero]
    rw [ofNat_toNat (by omega)]
    omega
  · rw [enc_three h] at hk ⊢
    simp only [List.length_cons, List.length_nil] at hk
    have hc : k = 1 ∨ k = 2 := by omega
    rcases hc with rfl | rfl
    · simp only [List.getD_cons_succ, List.getD_cons_zero]
      rw [ofNat_toNat (by omega)]
      omega
    · simp only [List.getD_cons_succ, List.getD_cons_zero]
      rw [ofNat_toNat (by omega)]
      omega
  · rw [enc_four h.1 h.2] at hk ⊢
    simp only [List.length_cons, List.length_nil] at hk
    have hc : k = 1 ∨ k = 2 ∨ k = 3 := by omega
    rcases hc with rfl | rfl | rfl
    · simp only [List.getD_cons_succ, List.getD_cons_zero]
      rw [ofNat_toNat (by omega)]
      omega
    · simp only [List.getD_cons_succ, List.getD_cons_zero]
      rw [ofNat_toNat (by omega)]
      omega
    · simp only [List.getD_cons_succ, List.getD_cons_zero]
      rw [ofNat_toNat (by omega)]
      omega
theorem enc_head {r : Int} (h : goodB r = true) : ((encodeRune r).getD 0 0).toNat / 64 ≠ 2 := by
  rcases good_cases h with h | h | h | h
  · rw [enc_one h.1 h.2]
    simp only [List.getD_cons_zero]
    rw [ofNat_toNat (by omega)]
    omega
  · rw [enc_two h.1 h.2]
    simp only [List.getD_cons_zero]
    rw [ofNat_toNat (by omega)]
    omega
  · rw [enc_three h]
    simp only [List.getD_cons_zero]
    rw [ofNat_toNat (by omega)]
    omega
  · rw [enc_four h.1 h.2]
    simp only [List.getD_cons_zero]
    rw [ofNat_toNat (by omega)]
    omega

theorem getD_end (q e : List UInt8) (k : Nat) (_h1 : 1 ≤ k) (hk : k ≤ e.length) : (q ++ e).getD ((q ++ e).length - k) 0 = e.getD (e.length - k) 0 := by
  have : (q ++ e).length - k = q.length + (e.length - k) := by rw [List.length_append]; omega
  rw [this]
  simp [List.getD, List.getElem?_append_right]
theorem start_tail {r : Int} (h : goodB r = true) (k : Nat) (h1 : 1 ≤ k) (hk : k < (encodeRune r).length) (q : List UInt8) : runeStartB ((q ++ encodeRune r).getD ((q ++ encodeRune r).length - k) 0) = false := by
  rw [getD_end _ _ _ h1 (by omega)]
  have := enc_tail h ((encodeRune r).length - k) (by omega) (by omega)
  unfold runeStartB
  rw [this]
  rfl
theorem start_head {r : Int} (h : goodB r = true) (q : List UInt8) : runeStartB ((q ++ encodeRune r).getD ((q ++ encodeRune r).length - (encodeRune r).length) 0) = true := by
  rw [getD_end _ _ _ (enc_length r).1 (Nat.le_refl _), Nat.sub_self]
  have := enc_head h
  unfold runeStartB
  exact bne_iff_ne.2 this
/-- A GOOD RUNE AT THE END is the last one that is decoded. -/
theorem last_enc {r : Int} (h : goodB r = true) (q : List UInt8) : decodeLastL (q ++ encodeRune r) = (r.toNat, (encodeRune r).length) := by
  have hlen := enc_length r
  have hne : q ++ encodeRune r ≠ [] := by simp [enc_ne]
  have hll : (q ++ encodeRune r).length = q.length + (encodeRune r).length := List.length_append
  unfold decodeLastL
  rw [if_neg hne]
  by_cases h1 : (encodeRune r).length = 1
  · have hr : 0 ≤ r ∧ r ≤ 127 := by
      rcases good_cases h with c | c | c | c
      · exact c
      · rw [enc_two c.1 c.2] at h1; simp at h1
      · rw [enc_three c] at h1; simp at h1
      · rw [enc_four c.1 c.2] at h1; simp at h1
    rw [getD_end q _ 1 (Nat.le_refl _) (by omega), enc_one hr.1 hr.2]
    simp only [List.length_cons, List.length_nil, Nat.sub_self, List.getD_cons_zero]
    rw [ofNat_toNat (by omega), if_pos (by omega)]
  · have hst : lastStart (q ++ encodeRune r) = q.length := by
      have hs := start_head h q
      unfold lastStart
      simp only
      have hc : (encodeRune r).length = 2 ∨ (encodeRune r).length = 3 ∨ (encodeRune r).length = 4 := by omega
      rcases hc with hc | hc | hc
      · rw [hc] at hs
        rw [if_neg (by omega), hs]
        simp only [if_true]
        omega
      · rw [hc] at hs
        have h2 := start_tail h 2 (by omega) (by omega) q
        rw [if_neg (by omega), h2, if_neg (by simp), if_neg (by omega), hs]
        simp only [if_true]
        omega
      · rw [hc] at hs
        have h2 := start_tail h 2 (by omega) (by omega) q
        have h3 := start_tail h 3 (by omega) (by omega) q
        rw [if_neg (by omega), h2, if_neg (by simp), if_neg (by omega), h3, if_neg (by simp), if_neg (by omega), if_pos hs]
        omega
    have hl : ¬ ((q ++ encodeRune r).getD ((q ++ encodeRune r).length - 1) 0).toNat < 128 := by
      rw [getD_end q _ 1 (Nat.le_refl _) (by omega)]
      have := enc_tail h ((encodeRune r).length - 1) (by omega) (by omega)
      omega
    rw [if_neg hl]
    simp only
    rw [hst, List.drop_left, dec_enc' h]
    simp only
    rw [if_pos (by omega)]
/-- EITHER an encoding stands at the end, OR none does. -/
theorem last_cases (l : List UInt8) (hne : l ≠ []) :
    (∃ (r : Int) (q : List UInt8), goodB r = true ∧ l = q ++ encodeRune r ∧ decodeLastL l = (r.toNat, (encodeRune r).length)) ∨
    (decodeLastL l = (65533, 1) ∧ ∀ (r : Int) (q : List UInt8), goodB r = true → l ≠ q ++ encodeRune r) := by
  by_cases hex : ∃ (r : Int) (q : List UInt8), goodB r = true ∧ l = q ++ encodeRune r
  · obtain ⟨r, q, hr, rfl⟩ := hex
    exact Or.inl ⟨r, q, hr, rfl, last_enc hr q⟩
  · have hno : ∀ (r : Int) (q : List UInt8), goodB r = true → l ≠ q ++ encodeRune r := fun r q hr he => hex ⟨r, q, hr, he⟩
    refine Or.inr ⟨?_, hno⟩
    have hpos : 0 < l.length := List.length_pos_iff.2 hne
    unfold decodeLastL
    rw [if_neg hne]
    by_cases ha : (l.getD (l.length - 1) 0).toNat < 128
    · exfalso
      refine hno ((l.getD (l.length - 1) 0).toNat : Int) (l.take (l.length - 1)) (by rw [goodB_iff]; omega) ?_
      rw [enc_one (by omega) (by omega)]
      have hd : l.drop (l.length - 1) = [l.getD (l.length - 1) 0] := by
        rw [List.drop_eq_getElem_cons (by omega), List.drop_of_length_le (by omega)]
        simp [List.getD, List.getElem?_eq_getElem (show l.length - 1 < l.length by omega)]
      have := List.take_append_drop (l.length - 1) l
      rw [hd] at this
      simp only [Int.toNat_natCast, UInt8.ofNat_toNat]
      exact this.symm
    · rw [if_neg ha]
      simp only
      split
      · rename_i hw
        obtain ⟨s, hs⟩ : ∃ s, lastStart l = s := ⟨_, rfl⟩
        rw [hs] at hw ⊢
        have hlt : s < l.length := by have := lastStart_lt' l hne; omega
        have hdn : l.drop s ≠ [] := by
          intro h0
          rw [List.drop_eq_nil_iff] at h0
          omega
        rcases dec_cases (l.drop s) hdn with ⟨r, t, hr, hl, hd, _⟩ | ⟨_, hd, _⟩
        · exfalso
          rw [hd] at hw
          simp only at hw
          have ht : t = [] := by
            have := congrArg List.length hl
            rw [List.length_append, List.length_drop] at this
            exact List.eq_nil_of_length_eq_zero (by omega)
          rw [ht, List.append_nil] at hl
          exact hno r (l.take s) hr (by rw [← hl, List.take_append_drop])
        · exact hd
      · rfl
theorem last_found {l : List UInt8} {k : Nat} (h : wholeB (l.drop (l.length - k)) = true) (hk : k ≤ l.length) : decodeLastL l = ((wholeR (l.drop (l.length - k))).toNat, k) ∧ ((wholeR (l.drop (l.length - k))).toNat : Int) = wholeR (l.drop (l.length - k)) := by
  obtain ⟨hg, he⟩ := wholeR_good h
  obtain ⟨r, hr⟩ : ∃ r, wholeR (l.drop (l.length - k)) = r := ⟨_, rfl⟩
  rw [hr] at hg he ⊢
  have hl : l = l.take (l.length - k) ++ encodeRune r := by rw [he, List.take_append_drop]
  have hlen : (encodeRune r).length = k := by rw [he, List.length_drop]; omega
  have hd := last_enc hg (l.take (l.length - k))
  rw [← hl, hlen] at hd
  refine ⟨hd, ?_⟩
  rw [goodB_iff] at hg
  omega
theorem last_not {l : List UInt8} (hne : l ≠ []) (h : ∀ j, 1 ≤ j → j ≤ 4 → j ≤ l.length → wholeB (l.drop (l.length - j)) = false) : decodeLastL l = (65533, 1) := by
  rcases last_cases l hne with ⟨r, q, hr, hl, _⟩ | ⟨hd, _⟩
  · exfalso
    have hen := enc_length r
    have hle : (encodeRune r).length ≤ l.length := by rw [hl, List.length_append]; omega
    have := h _ hen.1 hen.2 hle
    rw [show l.length - (encodeRune r).length = q.length by rw [hl, List.length_append]; omega] at this
    rw [hl, List.drop_left, (whole_enc hr).1] at this
    cases this
  · exact hd
theorem last_nil : decodeLastL [] = (65533, 0) := rfl

/-! ### The places, runes and sizes of the steps -/
def placesGo : Nat → List (Nat × Nat) → List Int
  | _, [] => []
  | i, p :: ps => (i : Int) :: placesGo (i + p.2) ps
def total (ps : List (Nat × Nat)) : Nat := (ps.map Prod.snd).sum
def placesL (l : List UInt8) : List Int := placesGo 0 (steps l)
def sizesL (l : List UInt8) : List Int := (steps l).map fun p => (p.2 : Int)
theorem placesGo_snoc (i : Nat) (ps : List (Nat × Nat)) (p : Nat × Nat) : placesGo i (ps ++ [p]) = placesGo i ps ++ [((i + total ps : Nat) : Int)] := by
  induction ps generalizing i with
  | nil => simp [placesGo, total]
  | cons q ps ih =>
    simp only [List.cons_append, placesGo, ih, total, List.map_cons, List.sum_cons]
    rw [Nat.add_assoc]
theorem placesGo_length (i : Nat) (ps : List (Nat × Nat)) : (placesGo i ps).length = ps.length := by
  induction ps generalizing i with
  | nil => rfl
  | cons q ps ih => simp [placesGo, ih]
theorem total_snoc (ps : List (Nat × Nat)) (p : Nat × Nat) : total (ps ++ [p]) = total ps + p.2 := by simp [total]
/-- How far the steps have come: the bytes up to i are done, the steps behind them are those of the rest. -/
def Come (l : List UInt8) (i : Nat) (ps : List (Nat × Nat)) : Prop := i ≤ l.length ∧ total ps = i ∧ steps l = ps ++ steps (l.drop i) ∧ ps.length ≤ i
theorem Come.start (l : List UInt8) : Come l 0 [] := ⟨Nat.zero_le _, rfl, by simp, Nat.le_refl _⟩
theorem Come.step {l : List UInt8} {i : Nat} {ps : List (Nat × Nat)} (h : Come l i ps) (hi : i < l.length) : Come l (i + (dec (l.drop i)).2) (ps ++ [dec (l.drop i)]) ∧ 1 ≤ (dec (l.drop i)).2 ∧ i + (dec (l.drop i)).2 ≤ l.length := by
  obtain ⟨h1, h2, h3, h4⟩ := h
  have hne : l.drop i ≠ [] := by
    intro h0
    rw [List.drop_eq_nil_iff] at h0
    omega
  rw [dec_of hne]
  have hw := decodeL_width (l.drop i)
  have hle := decodeL_le (l.drop i) hne
  rw [List.length_drop] at hle
  refine ⟨⟨by omega, by rw [total_snoc, h2], ?_, by simp; omega⟩, hw, by omega⟩
  rw [h3, steps_cons _ hne, List.drop_drop, List.append_assoc, List.singleton_append]
theorem Come.done {l : List UInt8} {i : Nat} {ps : List (Nat × Nat)} (h : Come l i ps) (hi : l.length ≤ i) : steps l = ps := by
  obtain ⟨h1, h2, h3, h4⟩ := h
  rw [h3, List.drop_eq_nil_of_le (by omega), steps_nil, List.append_nil]
end Go.Proofs.Ytliaaandgeogjaa
