/- Plain facts: where bytes may be cut between steps, what is decoded at both ends, and what becomes of runes that are converted back. -/
import Derived.Test.YtliaaandgeogjaaPlainC
namespace Go.Proofs.Ytliaaandgeogjaa
open Go.Lib
set_option linter.unusedVariables false
/-- A byte that can be a first one stands in front, or nothing does. -/
def fresh (e : List UInt8) : Prop := e = [] ∨ (e.getD 0 0).toNat / 64 ≠ 2
theorem fresh_nil : fresh [] := Or.inl rfl
theorem fresh_enc {r : Int} (h : goodB r = true) (q : List UInt8) : fresh (encodeRune r ++ q) := by
  right
  have h1 := enc_head h
  obtain ⟨b, m, he⟩ := List.exists_cons_of_ne_nil (enc_ne r)
  rw [he] at h1 ⊢
  simpa using h1
theorem fresh_text {rs : List Int} (h : ∀ r ∈ rs, goodB r = true) : fresh (text rs) := by
  cases rs with
  | nil => exact fresh_nil
  | cons r rs => rw [text_cons]; exact fresh_enc (h r (by simp)) _
theorem dec_fresh {q e : List UInt8} (hq : q ≠ []) (he : fresh e) : decodeL (q ++ e) = decodeL q := by
  rcases dec_app q e hq with h | ⟨x, t, q', hx, ht, h1, h2⟩
  · exact h
  · exfalso
    obtain ⟨b, m, rfl⟩ := List.exists_cons_of_ne_nil ht
    have hc := enc_conts hx q.length (List.length_pos_iff.2 hq) b
    rw [← h1, List.drop_left] at hc
    have := hc (by simp)
    rcases he with he | he
    · rw [he] at h2; simp at h2
    · rw [h2] at he; simp at he; exact he this
/-- BETWEEN STEPS: where a byte stands that can be a first one, the steps are those of both parts. -/
theorem steps_fresh (q : List UInt8) {e : List UInt8} (he : fresh e) : steps (q ++ e) = steps q ++ steps e := by
  induction q using steps_ind with
  | h0 => simp [steps_nil]
  | h1 l hne ih =>
    have hle := decodeL_le l hne
    rw [steps_cons (l ++ e) (by simp [hne]), dec_fresh hne he, steps_cons l hne, List.drop_append_of_le_length hle, ih]
    rfl
theorem validB_fresh (q : List UInt8) {e : List UInt8} (he : fresh e) : validB (q ++ e) = (validB q && validB e) := by
  unfold validB
  rw [steps_fresh q he, List.all_append]
theorem cnt_fresh (q : List UInt8) {e : List UInt8} (he : fresh e) : cnt (q ++ e) = cnt q + cnt e := by
  unfold cnt
  rw [steps_fresh q he, List.length_append]
theorem total_nil : total [] = 0 := rfl
theorem total_cons (p : Nat × Nat) (ps : List (Nat × Nat)) : total (p :: ps) = p.2 + total ps := by simp [total]
theorem total_steps (l : List UInt8) : total (steps l) = l.length := by
  induction l using steps_ind with
  | h0 => rfl
  | h1 l hne ih =>
    have hle := decodeL_le l hne
    rw [steps_cons l hne, total_cons, ih, List.length_drop]
    omega
/-- A shorter beginning, with what is decoded in it whole. -/
theorem dec_take (l : List UInt8) (hne : l ≠ []) (k : Nat) (hk : (decodeL l).2 ≤ k) : decodeL (l.take k) = decodeL l := by
  have hw := decodeL_width l
  have hl : 0 < l.length := List.length_pos_iff.2 hne
  have hne' : l.take k ≠ [] := by
    intro h
    have := congrArg List.length h
    rw [List.length_take, List.length_nil] at this
    omega
  rcases dec_cases l hne with ⟨r, q, hr, hl', hd, _⟩ | ⟨_, hd, hno⟩
  · rw [hd]
    rw [hd] at hk
    simp only at hk
    have ht : l.take k = encodeRune r ++ q.take (k - (encodeRune r).length) := by
      rw [hl', List.take_append, List.take_of_length_le hk]
    rw [ht, dec_enc hr]
  · rw [hd]
    rcases dec_cases (l.take k) hne' with ⟨r, q, hr, hl', _, _⟩ | ⟨_, hd', _⟩
    · exfalso
      refine hno r (q ++ l.drop k) hr ?_
      rw [← List.append_assoc, ← hl', List.take_append_drop]
    · exact hd'
theorem steps_take (l : List UInt8) : ∀ (ps qs : List (Nat × Nat)), steps l = ps ++ qs → steps (l.take (total ps)) = ps ∧ steps (l.drop (total ps)) = qs := by
  induction l using steps_ind with
  | h0 =>
    intro ps qs h
    rw [steps_nil] at h
    obtain ⟨rfl, rfl⟩ := List.append_eq_nil_iff.1 h.symm
    simp [steps_nil]
  | h1 l hne ih =>
    intro ps qs h
    cases ps with
    | nil =>
      rw [total_nil, List.take_zero, List.drop_zero, steps_nil]
      exact ⟨rfl, h⟩
    | cons p ps =>
      rw [steps_cons l hne, List.cons_append] at h
      obtain ⟨h1, h2⟩ := List.cons.inj h
      have hw := decodeL_width l
      have hle := decodeL_le l hne
      obtain ⟨i1, i2⟩ := ih ps qs h2
      rw [total_cons, ← h1]
      have hne' : l.take ((decodeL l).2 + total ps) ≠ [] := by
        intro h
        have := congrArg List.length h
        rw [List.length_take, List.length_nil] at this
        omega
      refine ⟨?_, ?_⟩
      · rw [steps_cons _ hne', dec_take l hne _ (by omega), List.drop_take, Nat.add_sub_cancel_left, i1]
      · rw [← List.drop_drop, i2]
/-- FROM THE END: the last step is what is decoded there. -/
theorem last_step (l : List UInt8) (ps : List (Nat × Nat)) (d : Nat × Nat) (h : steps l = ps ++ [d]) : decodeLastL l = d ∧ l.length = total ps + d.2 := by
  have htot : l.length = total ps + d.2 := by rw [← total_steps l, h, total_snoc]
  refine ⟨?_, htot⟩
  obtain ⟨_, hd⟩ := steps_take l ps [d] h
  have hne : l.drop (total ps) ≠ [] := by
    intro h0
    rw [h0, steps_nil] at hd
    cases hd
  have hdd : decodeL (l.drop (total ps)) = d := by
    rw [steps_cons _ hne] at hd
    exact (List.cons.inj hd).1
  have hlne : l ≠ [] := by
    intro h0
    rw [h0] at hne
    simp at hne
  rcases dec_cases (l.drop (total ps)) hne with ⟨r, q, hr, hl, hd2, _⟩ | ⟨_, hd2, hno⟩
  · rw [hd2] at hdd
    have hq : q = [] := by
      have := congrArg List.length hl
      rw [List.length_drop, List.length_append] at this
      have h2 : d.2 = (encodeRune r).length := by rw [← hdd]
      exact List.eq_nil_of_length_eq_zero (by omega)
    rw [hq, List.append_nil] at hl
    have e : l = l.take (total ps) ++ encodeRune r := by rw [← hl, List.take_append_drop]
    rw [e, last_enc hr, hdd]
  · rw [hd2] at hdd
    rw [← hdd]
    rcases last_cases l hlne with ⟨r, q, hr, hl, hd3⟩ | ⟨hd3, _⟩
    · exfalso
      have h1 := steps_fresh q (e := encodeRune r) (by have := fresh_enc hr []; rwa [List.append_nil] at this)
      rw [← hl, h] at h1
      have h2 := steps_enc hr []
      rw [List.append_nil, steps_nil] at h2
      rw [h2] at h1
      have h3 : d = (r.toNat, (encodeRune r).length) := by
        have := congrArg List.getLast? h1
        simpa using this
      rw [← hdd] at h3
      have e1 : r = 65533 := by have := congrArg Prod.fst h3; rw [goodB_iff] at hr; simp only at this; omega
      have e2 := congrArg Prod.snd h3
      subst e1
      revert e2
      decide
    · exact hd3
/-! ### The ends alone -/
theorem dec_bounds (l : List UInt8) : (dec l).1 ≤ 1114111 ∧ (dec l).2 ≤ 4 ∧ (dec l).2 ≤ l.length ∧ (l ≠ [] → 1 ≤ (dec l).2) ∧ goodB ((dec l).1 : Int) = true := by
  refine ⟨dec_rune_le l, ?_, ?_, ?_, ?_⟩
  · unfold dec; split
    · decide
    · exact decodeL_four l
  · unfold dec; split
    · simp
    · rename_i h; exact decodeL_le l h
  · intro h; rw [dec_of h]; exact decodeL_width l
  · unfold dec; split
    · decide
    · exact decodeL_good l
theorem last_bounds (l : List UInt8) : (decodeLastL l).1 ≤ 1114111 ∧ (decodeLastL l).2 ≤ 4 ∧ (decodeLastL l).2 ≤ l.length ∧ (l ≠ [] → 1 ≤ (decodeLastL l).2) ∧ goodB ((decodeLastL l).1 : Int) = true := by
  by_cases h : l = []
  · subst h
    rw [last_nil]
    refine ⟨by decide, by decide, by simp, fun h => absurd rfl h, by decide⟩
  · have hl : 0 < l.length := List.length_pos_iff.2 h
    rcases last_cases l h with ⟨r, q, hr, hl', hd⟩ | ⟨hd, _⟩
    · rw [hd]
      have h2 := enc_length r
      have h3 : (encodeRune r).length ≤ l.length := by rw [hl', List.length_append]; omega
      have h4 := hr
      rw [goodB_iff] at h4
      refine ⟨by simp only; omega, h2.2, h3, fun _ => h2.1, ?_⟩
      simp only
      rw [Int.toNat_of_nonneg h4.1]
      exact hr
    · rw [hd]
      exact ⟨by decide, by decide, by simp only; omega, fun _ => by decide, by decide⟩
/-- What is decoded, encoded again. -/
theorem enc_dec (l : List UInt8) (hne : l ≠ []) (h : ¬ ((dec l).1 = 65533 ∧ (dec l).2 ≤ 1)) : encodeRune ((dec l).1 : Int) = l.take (dec l).2 := by
  rw [dec_of hne] at h ⊢
  refine encode_decode l hne ?_
  rintro ⟨h1, h2⟩
  exact h ⟨h1, by omega⟩
theorem enc_last (l : List UInt8) (hne : l ≠ []) (h : ¬ ((decodeLastL l).1 = 65533 ∧ (decodeLastL l).2 ≤ 1)) : encodeRune ((decodeLastL l).1 : Int) = l.drop (l.length - (decodeLastL l).2) := by
  rcases last_cases l hne with ⟨r, q, hr, hl, hd⟩ | ⟨hd, _⟩
  · rw [hd]
    simp only
    have h4 := hr
    rw [goodB_iff] at h4
    rw [Int.toNat_of_nonneg h4.1, hl, List.length_append, Nat.add_sub_cancel, List.drop_left]
  · rw [hd] at h
    exact absurd ⟨rfl, Nat.le_refl _⟩ h
theorem dec_four (l : List UInt8) : dec (l.take 4) = dec l := by
  by_cases h : l = []
  · subst h; rfl
  · have h' : l.take 4 ≠ [] := by
      intro h0
      have hl : 0 < l.length := List.length_pos_iff.2 h
      have := congrArg List.length h0
      rw [List.length_take, List.length_nil] at this
      omega
    rw [dec_of h, dec_of h', dec_take l h 4 (decodeL_four l)]
theorem last_four (l : List UInt8) (hl : 4 ≤ l.length) : decodeLastL (l.drop (l.length - 4)) = decodeLastL l := by
  have hne : l ≠ [] := by intro h; rw [h] at hl; simp at hl
  have hne' : l.drop (l.length - 4) ≠ [] := by
    intro h
    have := congrArg List.length h
    rw [List.length_drop] at this
    simp at this
    omega
  rcases last_cases l hne with ⟨r, q, hr, hl', hd⟩ | ⟨hd, hno⟩
  · have h4 := (enc_length r).2
    have hx : l.drop (l.length - 4) = q.drop (l.length - 4) ++ encodeRune r := by
      have hll := congrArg List.length hl'
      rw [List.length_append] at hll
      conv => lhs; rw [hl']
      rw [List.drop_append_of_le_length (by rw [← hl']; omega), ← hl']
    rw [hd, hx, last_enc hr]
  · rw [hd]
    rcases last_cases (l.drop (l.length - 4)) hne' with ⟨r, q, hr, hl', _⟩ | ⟨hd', _⟩
    · exfalso
      refine hno r (l.take (l.length - 4) ++ q) hr ?_
      rw [List.append_assoc, ← hl', List.take_append_drop]
    · exact hd'
/-- One byte from 128 on: RuneError. -/
theorem one_bad {l : List UInt8} (hne : l ≠ []) (h1 : (dec l).2 = 1) (h0 : 128 ≤ (l.getD 0 0).toNat) : (dec l).1 = 65533 := by
  rw [dec_of hne] at h1 ⊢
  rcases dec_cases l hne with ⟨r, q, hr, hl, hd, _⟩ | ⟨_, hd, _⟩
  · exfalso
    rw [hd] at h1
    simp only at h1
    rcases good_cases hr with c | c | c | c
    · rw [enc_one c.1 c.2] at hl
      rw [hl] at h0
      simp only [List.cons_append, List.getD_cons_zero] at h0
      rw [ofNat_toNat (by omega)] at h0
      omega
    · rw [enc_two c.1 c.2] at h1; simp at h1
    · rw [enc_three c] at h1; simp at h1
    · rw [enc_four c.1 c.2] at h1; simp at h1
  · rw [hd]
/-! ### Runes converted back -/
theorem back_length (l : List UInt8) : l.length ≤ (text (runesL l)).length ∧ (validB l = false → l.length < (text (runesL l)).length) := by
  induction l using steps_ind with
  | h0 => exact ⟨by simp, fun h => by rw [validB_nil] at h; cases h⟩
  | h1 l hne ih =>
    have hr : runesL l = ((decodeL l).1 : Int) :: runesL (l.drop (decodeL l).2) := by
      unfold runesL
      rw [steps_cons l hne, List.map_cons]
    have hle := decodeL_le l hne
    rw [hr, text_cons, List.length_append, validB_step l hne]
    rw [List.length_drop] at ih
    by_cases hb : bad l
    · have e3 : (encodeRune ((decodeL l).1 : Int)).length = 3 := by rw [hb.1]; decide
      have e1 := hb.2
      rw [e3]
      rw [e1] at ih ⊢
      have := ih.1
      exact ⟨by omega, fun _ => by omega⟩
    · have he := congrArg List.length (encode_decode l hne hb)
      rw [List.length_take] at he
      rw [decide_eq_false hb, Bool.not_false, Bool.true_and]
      have h1 := ih.1
      have h2 := ih.2
      exact ⟨by omega, fun h => by have := h2 h; omega⟩
theorem runes_good (l : List UInt8) : ∀ r ∈ runesL l, goodB r = true := by
  induction l using steps_ind with
  | h0 => simp [runesL_nil]
  | h1 l hne ih =>
    have hr : runesL l = ((decodeL l).1 : Int) :: runesL (l.drop (decodeL l).2) := by
      unfold runesL
      rw [steps_cons l hne, List.map_cons]
    rw [hr]
    intro r h
    rcases List.mem_cons.1 h with rfl | h
    · exact decodeL_good l
    · exact ih r h
theorem back_valid (l : List UInt8) : validB (text (runesL l)) = true := validB_text' _ (runes_good l)
/-! ### How far a walk along the steps has come -/
theorem Come.at_ {l : List UInt8} {i : Nat} {ps : List (Nat × Nat)} (h : Come l i ps) (hi : i < l.length) :
    ps.length < cnt l ∧ (placesL l).getD ps.length 0 = (i : Int) ∧ (runesL l).getD ps.length 0 = ((dec (l.drop i)).1 : Int) ∧ (sizesL l).getD ps.length 0 = ((dec (l.drop i)).2 : Int) := by
  obtain ⟨h1, h2, h3, h4⟩ := h
  have hne : l.drop i ≠ [] := by
    intro h0
    rw [List.drop_eq_nil_iff] at h0
    omega
  rw [steps_cons _ hne, ← dec_of hne] at h3
  refine ⟨?_, ?_, ?_, ?_⟩
  · unfold cnt
    rw [h3]
    simp
  · unfold placesL
    rw [h3]
    have : ∀ (k : Nat) (qs : List (Nat × Nat)), (placesGo k (ps ++ dec (l.drop i) :: qs)).getD ps.length 0 = ((k + total ps : Nat) : Int) := by
      clear h3 h2 h4
      induction ps with
      | nil => intro k qs; simp [placesGo, total]
      | cons p ps ih =>
        intro k qs
        simp only [List.cons_append, placesGo, List.length_cons, List.getD_cons_succ, ih, total_cons]
        congr 1
        omega
    rw [this, h2, Nat.zero_add]
  · unfold runesL
    rw [h3]
    simp [List.getD]
  · unfold sizesL
    rw [h3]
    simp [List.getD]
theorem Come.len {l : List UInt8} {i : Nat} {ps : List (Nat × Nat)} (h : Come l i ps) (hi : l.length ≤ i) : ps.length = cnt l := by
  unfold cnt
  rw [h.done hi]
/-! ### Further bytes -/
theorem dec_further {p : List UInt8} (q : List UInt8) (h : ¬ ((dec p).1 = 65533 ∧ (dec p).2 ≤ 1)) : dec (p ++ q) = dec p := by
  have hne : p ≠ [] := by
    intro h0
    rw [h0] at h
    exact h ⟨rfl, by decide⟩
  rw [dec_of hne] at h ⊢
  rw [dec_of (by simp [hne])]
  rcases dec_cases p hne with ⟨r, t, hr, hl, hd, _⟩ | ⟨_, hd, _⟩
  · rw [hd, hl, List.append_assoc, dec_enc hr]
  · rw [hd] at h
    exact absurd ⟨rfl, Nat.le_refl _⟩ h
theorem last_further (p : List UInt8) {q : List UInt8} (h : ¬ ((decodeLastL q).1 = 65533 ∧ (decodeLastL q).2 ≤ 1)) : decodeLastL (p ++ q) = decodeLastL q := by
  have hne : q ≠ [] := by
    intro h0
    rw [h0] at h
    exact h ⟨rfl, by decide⟩
  rcases last_cases q hne with ⟨r, t, hr, hl, hd⟩ | ⟨hd, _⟩
  · rw [hd, hl, ← List.append_assoc, last_enc hr]
  · rw [hd] at h
    exact absurd ⟨rfl, Nat.le_refl _⟩ h
end Go.Proofs.Ytliaaandgeogjaa
