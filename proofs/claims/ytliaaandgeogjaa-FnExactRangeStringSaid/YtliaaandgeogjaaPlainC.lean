/- Plain facts: what is counted where bytes are cut and joined, how wide steps are, and how many bytes can be first ones. -/
import Derived.Test.YtliaaandgeogjaaPlainB
namespace Go.Proofs.Ytliaaandgeogjaa
open Go.Lib
set_option linter.unusedVariables false
def cnt (l : List UInt8) : Nat := (steps l).length
theorem cnt_le (l : List UInt8) : cnt l ≤ l.length := steps_len l
theorem cnt_nil : cnt [] = 0 := rfl
theorem cnt_step (l : List UInt8) (h : l ≠ []) : cnt l = cnt (l.drop (decodeL l).2) + 1 := by
  unfold cnt
  rw [steps_cons l h, List.length_cons]
theorem cnt_pos (l : List UInt8) (h : l ≠ []) : 0 < cnt l := by rw [cnt_step l h]; omega
theorem cnt_enc {r : Int} (h : goodB r = true) (q : List UInt8) : cnt (encodeRune r ++ q) = cnt q + 1 := by
  unfold cnt
  rw [steps_enc h, List.length_cons]
theorem cnt_text (rs : List Int) (h : ∀ r ∈ rs, goodB r = true) (q : List UInt8) : cnt (text rs ++ q) = rs.length + cnt q := by
  unfold cnt
  rw [steps_text rs h, List.length_append, List.length_map]
theorem decodeL_four (l : List UInt8) : (decodeL l).2 ≤ 4 := by
  by_cases h : l = []
  · subst h; decide
  · rcases dec_cases l h with ⟨r, q, _, _, hd, _⟩ | ⟨_, hd, _⟩
    · rw [hd]; exact (enc_length r).2
    · rw [hd]; decide
theorem cnt_four (l : List UInt8) : l.length ≤ 4 * cnt l := by
  induction l using steps_ind with
  | h0 => simp
  | h1 l hne ih =>
    have := decodeL_four l
    rw [cnt_step l hne]
    rw [List.length_drop] at ih
    omega

/-- A byte that is no first one, in front: it is passed over alone. -/
theorem cont_step (b : UInt8) (q : List UInt8) (h : b.toNat / 64 = 2) : decodeL (b :: q) = (65533, 1) := by
  rw [decodeL_N]
  exact decodeN_cont _ _ _ _ _ (by simpa using h)
theorem cnt_cont (m q : List UInt8) (h : ∀ b ∈ m, b.toNat / 64 = 2) : cnt (m ++ q) = m.length + cnt q := by
  induction m with
  | nil => simp
  | cons b m ih =>
    rw [List.cons_append, cnt_step _ (by simp), cont_step b _ (h b (by simp))]
    simp only [List.drop_succ_cons, List.drop_zero]
    rw [ih (fun x hx => h x (by simp [hx])), List.length_cons]
    omega
theorem enc_conts {r : Int} (h : goodB r = true) (k : Nat) (hk : 1 ≤ k) : ∀ b ∈ (encodeRune r).drop k, b.toNat / 64 = 2 := by
  intro b hb
  obtain ⟨j, hj, rfl⟩ := List.mem_iff_getElem.1 hb
  rw [List.length_drop] at hj
  have := enc_tail h (k + j) (by omega) (by omega)
  rw [List.getElem_drop]
  simpa [List.getD, List.getElem?_eq_getElem (show k + j < (encodeRune r).length by omega)] using this
/-- A proper beginning of an encoding is counted byte by byte. -/
theorem bad_prefix {r : Int} (h : goodB r = true) {p t : List UInt8} (hp : p ≠ []) (ht : t ≠ []) (he : p ++ t = encodeRune r) : bad p := by
  rcases dec_cases p hp with ⟨y, q, hy, hl, _, _⟩ | ⟨hb, _, _⟩
  · exfalso
    rw [hl, List.append_assoc] at he
    have := enc_pre (p := q ++ t) (q := []) hy h (by rw [List.append_nil]; exact he)
    exact ht (List.append_eq_nil_iff.1 this.2).2
  · exact hb
theorem cnt_prefix {r : Int} (h : goodB r = true) {p t : List UInt8} (hp : p ≠ []) (ht : t ≠ []) (he : p ++ t = encodeRune r) : cnt p = p.length := by
  obtain ⟨b, m, rfl⟩ := List.exists_cons_of_ne_nil hp
  have hb := bad_prefix h (by simp) ht he
  rw [cnt_step _ (by simp), hb.2]
  simp only [List.drop_succ_cons, List.drop_zero]
  have hc : ∀ x ∈ m, x.toNat / 64 = 2 := by
    intro x hx
    have := enc_conts h 1 (Nat.le_refl _) x
    rw [← he] at this
    exact this (by simp [hx])
  have := cnt_cont m [] hc
  rw [List.append_nil, cnt_nil] at this
  rw [this, List.length_cons]
/-- What stands behind changes what is decoded only if an encoding is cut. -/
theorem dec_app (r q : List UInt8) (h : r ≠ []) : decodeL (r ++ q) = decodeL r ∨ ∃ (x : Int) (t q' : List UInt8), goodB x = true ∧ t ≠ [] ∧ r ++ t = encodeRune x ∧ q = t ++ q' := by
  rcases dec_cases r h with ⟨y, t, hy, hl, hd, _⟩ | ⟨hb, hd, hno⟩
  · left
    rw [hd, hl, List.append_assoc, dec_enc hy]
  · rcases dec_cases (r ++ q) (by simp [h]) with ⟨x, q', hx, hl, hd', _⟩ | ⟨_, hd', _⟩
    · right
      rcases List.append_eq_append_iff.1 hl with ⟨t, h1, h2⟩ | ⟨t, h1, h2⟩
      · by_cases ht : t = []
        · exfalso
          rw [ht, List.append_nil] at h1
          exact hno x [] hx (by rw [List.append_nil]; exact h1.symm)
        · exact ⟨x, t, q', hx, ht, h1.symm, h2⟩
      · exact absurd h1 (hno x t hx)
    · left
      rw [hd, hd']
theorem cnt_join : ∀ (p q : List UInt8), cnt (p ++ q) ≤ cnt p + cnt q ∧ cnt p + cnt q ≤ cnt (p ++ q) + 3 := by
  intro p
  induction p using steps_ind with
  | h0 => intro q; simp [cnt_nil]
  | h1 p hne ih =>
    intro q
    rcases dec_app p q hne with h | ⟨x, t, q', hx, ht, he, rfl⟩
    · have hle := decodeL_le p hne
      rw [cnt_step (p ++ q) (by simp [hne]), h, List.drop_append_of_le_length hle, cnt_step p hne]
      have := ih q
      omega
    · have h1 := cnt_prefix hx hne ht he
      have hc : ∀ b ∈ t, b.toNat / 64 = 2 := by
        intro b hb
        have := enc_conts hx p.length (List.length_pos_iff.2 hne) b
        rw [← he, List.drop_left] at this
        exact this hb
      have h2 := cnt_cont t q' hc
      have h3 : cnt (p ++ (t ++ q')) = cnt q' + 1 := by rw [← List.append_assoc, he, cnt_enc hx]
      have h4 := (enc_length x)
      have h5 := congrArg List.length he
      rw [List.length_append] at h5
      have : 0 < p.length := List.length_pos_iff.2 hne
      have : 0 < t.length := List.length_pos_iff.2 ht
      rw [h1, h2, h3]
      omega

/-! ### Valid bytes are texts of good runes -/
def wrongB (p : Nat × Nat) : Bool := p.1 == 65533 && p.2 == 1
def validB (l : List UInt8) : Bool := (steps l).all fun p => !wrongB p
theorem wrongB_iff (l : List UInt8) : wrongB (decodeL l) = true ↔ bad l := by
  unfold wrongB bad
  rw [Bool.and_eq_true, beq_iff_eq, beq_iff_eq]
theorem validB_nil : validB [] = true := rfl
theorem validB_step (l : List UInt8) (h : l ≠ []) : validB l = (!decide (bad l) && validB (l.drop (decodeL l).2)) := by
  unfold validB
  rw [steps_cons l h, List.all_cons]
  congr 2
  rw [Bool.eq_iff_iff, wrongB_iff, decide_eq_true_eq]
theorem validB_enc {r : Int} (h : goodB r = true) (q : List UInt8) : validB (encodeRune r ++ q) = validB q := by
  rw [validB_step _ (by simp [enc_ne]), decide_eq_false (not_bad_enc h q), dec_enc h q]
  simp
theorem validB_text (rs : List Int) (h : ∀ r ∈ rs, goodB r = true) (q : List UInt8) : validB (text rs ++ q) = validB q := by
  induction rs with
  | nil => simp [text]
  | cons r rs ih => rw [text_cons, List.append_assoc, validB_enc (h r (by simp)), ih (fun x hx => h x (by simp [hx]))]
theorem validB_text' (rs : List Int) (h : ∀ r ∈ rs, goodB r = true) : validB (text rs) = true := by
  have := validB_text rs h []
  rwa [List.append_nil, validB_nil] at this
/-- Valid bytes are the text of their runes. -/
theorem valid_text (l : List UInt8) (h : validB l = true) : l = text (runesL l) ∧ ∀ r ∈ runesL l, goodB r = true := by
  induction l using steps_ind with
  | h0 => simp [runesL_nil, text]
  | h1 l hne ih =>
    rw [validB_step l hne, Bool.and_eq_true] at h
    have hb : ¬ bad l := by simpa using h.1
    obtain ⟨h1, h2⟩ := ih h.2
    have hr : runesL l = ((decodeL l).1 : Int) :: runesL (l.drop (decodeL l).2) := by
      unfold runesL
      rw [steps_cons l hne, List.map_cons]
    rw [hr]
    refine ⟨?_, ?_⟩
    · rw [text_cons, ← h1, encode_decode l hne hb, List.take_append_drop]
    · intro r hr
      rcases List.mem_cons.1 hr with rfl | hr
      · exact decodeL_good l
      · exact h2 r hr
theorem valid_iff (l : List UInt8) : validB l = true ↔ ∃ rs, (∀ r ∈ rs, goodB r = true) ∧ l = text rs :=
  ⟨fun h => ⟨_, (valid_text l h).2, (valid_text l h).1⟩, fun ⟨rs, h, e⟩ => by rw [e]; exact validB_text' rs h⟩
theorem cnt_valid {p : List UInt8} (h : validB p = true) (q : List UInt8) : cnt (p ++ q) = cnt p + cnt q := by
  obtain ⟨rs, hg, rfl⟩ := (valid_iff p).1 h
  have h1 := cnt_text rs hg q
  have h2 := cnt_text rs hg []
  rw [List.append_nil, cnt_nil] at h2
  omega

/-! ### Bytes that can be first ones -/
def starts (l : List UInt8) : Nat := l.countP fun b => decide (b.toNat / 64 ≠ 2)
theorem starts_nil : starts [] = 0 := rfl
theorem starts_append (a b : List UInt8) : starts (a ++ b) = starts a + starts b := by simp [starts]
theorem starts_snoc (l : List UInt8) (k : Nat) (hk : k < l.length) : starts (l.take (k + 1)) = starts (l.take k) + if (l.getD k 0).toNat / 64 ≠ 2 then 1 else 0 := by
  rw [List.take_succ_eq_append_getElem hk, starts_append]
  congr 1
  simp only [List.getD, List.getElem?_eq_getElem hk, Option.getD_some, starts, List.countP_cons, List.countP_nil]
  simp
theorem starts_le (l : List UInt8) : starts l ≤ l.length := List.countP_le_length
theorem starts_conts {m : List UInt8} (h : ∀ b ∈ m, b.toNat / 64 = 2) : starts m = 0 := by
  unfold starts
  rw [List.countP_eq_zero]
  intro b hb
  simp [h b hb]
theorem starts_enc {r : Int} (h : goodB r = true) : starts (encodeRune r) = 1 := by
  obtain ⟨b, m, he⟩ := List.exists_cons_of_ne_nil (enc_ne r)
  have h1 := enc_head h
  have h2 := enc_conts h 1 (Nat.le_refl _)
  rw [he] at h1 h2 ⊢
  simp only [List.getD_cons_zero, List.drop_succ_cons, List.drop_zero] at h1 h2
  rw [show b :: m = [b] ++ m from rfl, starts_append, starts_conts h2]
  simp [starts, h1]
theorem starts_text (rs : List Int) (h : ∀ r ∈ rs, goodB r = true) : starts (text rs) = rs.length := by
  induction rs with
  | nil => rfl
  | cons r rs ih => rw [text_cons, starts_append, starts_enc (h r (by simp)), ih (fun x hx => h x (by simp [hx])), List.length_cons]; omega
theorem starts_cnt (l : List UInt8) : starts l ≤ cnt l := by
  induction l using steps_ind with
  | h0 => simp [starts_nil]
  | h1 l hne ih =>
    rw [cnt_step l hne]
    have hs : starts l = starts (l.take (decodeL l).2) + starts (l.drop (decodeL l).2) := by rw [← starts_append, List.take_append_drop]
    have h1 : starts (l.take (decodeL l).2) ≤ 1 := by
      rcases dec_cases l hne with ⟨r, q, hr, hl, hd, _⟩ | ⟨_, hd, _⟩
      · rw [hd]
        simp only
        rw [hl, List.take_left, starts_enc hr]
        exact Nat.le_refl _
      · rw [hd]
        have := starts_le (l.take 1)
        have h2 := List.length_take_le 1 l
        simp only
        omega
    omega
theorem starts_valid {l : List UInt8} (h : validB l = true) : cnt l = starts l := by
  obtain ⟨rs, hg, rfl⟩ := (valid_iff l).1 h
  have h2 := cnt_text rs hg []
  rw [List.append_nil, cnt_nil] at h2
  rw [starts_text rs hg]
  omega
end Go.Proofs.Ytliaaandgeogjaa
