/- Plain facts on UTF-8, no program in sight: what is decoded behind an encoding is that encoding's rune, an encoding is told by its bytes, and steps through a text. -/
import Derived.Lib.MapLaws
import Derived.Lib.ValidLaws
import Derived.Lib.RuneBytes
import Derived.Lib.RuneCount
namespace Go.Proofs.Yteloimkpkbcahaa
open Go.Lib
set_option linter.unusedVariables false

def surB (r : Int) : Bool := decide (55296 ≤ r ∧ r ≤ 57343)
def goodB (r : Int) : Bool := decide (0 ≤ r ∧ r ≤ 1114111 ∧ ¬ (55296 ≤ r ∧ r ≤ 57343))
theorem surB_iff {r : Int} : surB r = true ↔ 55296 ≤ r ∧ r ≤ 57343 := by simp [surB]
theorem goodB_iff {r : Int} : goodB r = true ↔ 0 ≤ r ∧ r ≤ 1114111 ∧ ¬ (55296 ≤ r ∧ r ≤ 57343) := by simp only [goodB, decide_eq_true_eq]

/-- What the decoders give: of no bytes RuneError and 0. -/
def dec (l : List UInt8) : Nat × Nat := if l = [] then (65533, 0) else decodeL l
theorem dec_nil : dec [] = (65533, 0) := rfl
theorem dec_of {l : List UInt8} (h : l ≠ []) : dec l = decodeL l := by simp [dec, h]
/-- Bytes with which no encoding begins. -/
def bad (l : List UInt8) : Prop := (decodeL l).1 = 65533 ∧ (decodeL l).2 = 1
instance (l : List UInt8) : Decidable (bad l) := by unfold bad; infer_instance

theorem enc_length (r : Int) : 1 ≤ (encodeRune r).length ∧ (encodeRune r).length ≤ 4 := by
  have := encodeRuneZ_length r
  simpa [encodeRune] using this
theorem enc_ne (r : Int) : encodeRune r ≠ [] := by
  have := enc_length r
  intro h
  rw [h] at this
  simp at this

/-- The bytes of an encoding, by the size of the rune. -/
theorem enc_one {r : Int} (h0 : 0 ≤ r) (h1 : r ≤ 127) : encodeRune r = [UInt8.ofNat r.toNat] := by
  simp [encodeRune, encodeRuneZ_one h0 h1, Nat.toUInt8]
theorem enc_two {r : Int} (h0 : 128 ≤ r) (h1 : r ≤ 2047) : encodeRune r = [UInt8.ofNat (192 + r / 64).toNat, UInt8.ofNat (128 + r % 64).toNat] := by
  simp [encodeRune, encodeRuneZ_two h0 h1, Nat.toUInt8]
theorem enc_three {r : Int} (h : (2048 ≤ r ∧ r < 55296) ∨ (57343 < r ∧ r ≤ 65535)) :
    encodeRune r = [UInt8.ofNat (224 + r / 4096).toNat, UInt8.ofNat (128 + r / 64 % 64).toNat, UInt8.ofNat (128 + r % 64).toNat] := by
  simp [encodeRune, encodeRuneZ_three h, Nat.toUInt8]
theorem enc_four {r : Int} (h0 : 65536 ≤ r) (h1 : r ≤ 1114111) :
    encodeRune r = [UInt8.ofNat (240 + r / 262144).toNat, UInt8.ofNat (128 + r / 4096 % 64).toNat, UInt8.ofNat (128 + r / 64 % 64).toNat, UInt8.ofNat (128 + r % 64).toNat] := by
  simp [encodeRune, encodeRuneZ_four h0 h1, Nat.toUInt8]
theorem enc_bad {r : Int} (h : goodB r = false) : encodeRune r = encodeRune 65533 := by
  have h' : r < 0 ∨ (55296 ≤ r ∧ r ≤ 57343) ∨ 1114111 < r := by
    have : ¬ (goodB r = true) := by simp [h]
    rw [goodB_iff] at this
    omega
  rw [encodeRune, encodeRuneZ_bad h', encodeRune, encodeRuneZ_three (by omega)]
  decide

theorem good_cases {r : Int} (h : goodB r = true) : (0 ≤ r ∧ r ≤ 127) ∨ (128 ≤ r ∧ r ≤ 2047) ∨ ((2048 ≤ r ∧ r < 55296) ∨ (57343 < r ∧ r ≤ 65535)) ∨ (65536 ≤ r ∧ r ≤ 1114111) := by
  rw [goodB_iff] at h
  omega

theorem ofNat_toNat {n : Nat} (h : n < 256) : (UInt8.ofNat n).toNat = n := by simp; omega

/-- WHAT STANDS BEHIND AN ENCODING CHANGES NOTHING OF WHAT IS DECODED. -/
theorem dec_enc {r : Int} (h : goodB r = true) (q : List UInt8) : decodeL (encodeRune r ++ q) = (r.toNat, (encodeRune r).length) := by
  rcases good_cases h with h | h | h | h
  · rw [enc_one h.1 h.2, decodeL_N]
    simp only [List.cons_append, List.nil_append, List.length_cons, List.length_nil, List.getD_cons_zero]
    rw [ofNat_toNat (by omega)]
    have : r.toNat < 128 := by omega
    simp [decodeN, this]
  · rw [enc_two h.1 h.2, decodeL_N]
    simp only [List.cons_append, List.nil_append, List.length_cons, List.length_nil, List.getD_cons_zero, List.getD_cons_succ]
    rw [ofNat_toNat (by omega), ofNat_toNat (by omega)]
    unfold decodeN
    rw [if_neg (by omega), if_pos (by omega), if_pos (by omega)]
    apply Prod.ext <;> simp only <;> omega
  · rw [enc_three h, decodeL_N]
    simp only [List.cons_append, List.nil_append, List.length_cons, List.length_nil, List.getD_cons_zero, List.getD_cons_succ]
    rw [ofNat_toNat (by omega), ofNat_toNat (by omega), ofNat_toNat (by omega)]
    unfold decodeN
    rw [if_neg (by omega), if_neg (by omega), if_pos (by omega), if_pos (by omega)]
    apply Prod.ext <;> simp only <;> omega
  · rw [enc_four h.1 h.2, decodeL_N]
    simp only [List.cons_append, List.nil_append, List.length_cons, List.length_nil, List.getD_cons_zero, List.getD_cons_succ]
    rw [ofNat_toNat (by omega), ofNat_toNat (by omega), ofNat_toNat (by omega), ofNat_toNat (by omega)]
    unfold decodeN
    rw [if_neg (by omega), if_neg (by omega), if_neg (by omega), if_pos (by omega), if_pos (by omega)]
    apply Prod.ext <;> simp only <;> omega

theorem dec_enc' {r : Int} (h : goodB r = true) : decodeL (encodeRune r) = (r.toNat, (encodeRune r).length) := by
  have := dec_enc h []
  simpa using this
theorem not_bad_enc {r : Int} (h : goodB r = true) (q : List UInt8) : ¬ bad (encodeRune r ++ q) := by
  unfold bad
  rw [dec_enc h q]
  rintro ⟨h1, h2⟩
  simp only at h1 h2
  have : r = 65533 := by rw [goodB_iff] at h; omega
  subst this
  revert h2
  decide

/-- What is decoded can be encoded. -/
theorem decodeN_good (n b0 b1 b2 b3 : Nat) (h0 : b0 < 256) : goodB ((decodeN n b0 b1 b2 b3).1 : Int) = true := by
  rw [goodB_iff]
  unfold decodeN
  repeat' split
  all_goals (simp only; omega)
theorem decodeL_good (l : List UInt8) : goodB ((decodeL l).1 : Int) = true := by
  rw [decodeL_N]
  exact decodeN_good _ _ _ _ _ (UInt8.toNat_lt _)

/-- EITHER an encoding stands in front, OR none does. -/
theorem dec_cases (l : List UInt8) (h : l ≠ []) :
    (∃ (r : Int) (q : List UInt8), goodB r = true ∧ l = encodeRune r ++ q ∧ decodeL l = (r.toNat, (encodeRune r).length) ∧ ¬ bad l) ∨
    (bad l ∧ decodeL l = (65533, 1) ∧ ∀ (r : Int) (q : List UInt8), goodB r = true → l ≠ encodeRune r ++ q) := by
  by_cases hb : bad l
  · refine Or.inr ⟨hb, Prod.ext hb.1 hb.2, fun r q hr he => ?_⟩
    subst he
    exact not_bad_enc hr q hb
  · have he := encode_decode l h hb
    have hg := decodeL_good l
    have hl : l = encodeRune ((decodeL l).1 : Int) ++ l.drop (decodeL l).2 := by rw [he, List.take_append_drop]
    refine Or.inl ⟨_, _, hg, hl, ?_, hb⟩
    have := dec_enc hg (l.drop (decodeL l).2)
    rw [← hl] at this
    exact this

/-- NO ENCODING BEGINS WITH ANOTHER ONE. -/
theorem enc_pre {a b : Int} (ha : goodB a = true) (hb : goodB b = true) {p q : List UInt8} (h : encodeRune a ++ p = encodeRune b ++ q) : a = b ∧ p = q := by
  have h1 := dec_enc ha p
  rw [h, dec_enc hb q] at h1
  have h2 : b.toNat = a.toNat := congrArg Prod.fst h1
  have e : a = b := by rw [goodB_iff] at ha hb; omega
  subst e
  exact ⟨rfl, List.append_cancel_left h⟩
theorem enc_inj {a b : Int} (ha : goodB a = true) (hb : goodB b = true) (h : encodeRune a = encodeRune b) : a = b := by
  have := enc_pre (p := []) (q := []) ha hb (by simpa using h)
  exact this.1

/-! ### One encoding after the other -/
def stepsGo : Nat → List UInt8 → List (Nat × Nat)
  | 0, _ => []
  | f + 1, l => if l = [] then [] else decodeL l :: stepsGo f (l.drop (decodeL l).2)
def steps (l : List UInt8) : List (Nat × Nat) := stepsGo l.length l
theorem stepsGo_nil : ∀ f, stepsGo f [] = []
  | 0 => rfl
  | _ + 1 => by simp [stepsGo]
theorem stepsGo_fuel : ∀ (f g : Nat) (l : List UInt8), l.length ≤ f → l.length ≤ g → stepsGo f l = stepsGo g l
  | 0, g, l, hf, _ => by
    have : l = [] := List.eq_nil_of_length_eq_zero (by omega)
    subst this
    rw [stepsGo_nil, stepsGo_nil]
  | f + 1, 0, l, _, hg => by
    have : l = [] := List.eq_nil_of_length_eq_zero (by omega)
    subst this
    rw [stepsGo_nil, stepsGo_nil]
  | f + 1, g + 1, l, hf, hg => by
    unfold stepsGo
    by_cases hne : l = []
    · simp [hne]
    · have hw := decodeL_width l
      have hl : 0 < l.length := List.length_pos_iff.2 hne
      rw [if_neg hne, if_neg hne, stepsGo_fuel f g (l.drop (decodeL l).2) (by rw [List.length_drop]; omega) (by rw [List.length_drop]; omega)]
theorem steps_nil : steps [] = [] := rfl
theorem steps_cons (l : List UInt8) (hne : l ≠ []) : steps l = decodeL l :: steps (l.drop (decodeL l).2) := by
  have hl : 0 < l.length := List.length_pos_iff.2 hne
  have hw := decodeL_width l
  obtain ⟨n, hn⟩ : ∃ n, l.length = n + 1 := ⟨l.length - 1, by omega⟩
  unfold steps
  rw [hn]
  show (if l = [] then [] else _) = _
  rw [if_neg hne, stepsGo_fuel n (l.drop (decodeL l).2).length _ (by rw [List.length_drop]; omega) (Nat.le_refl _)]
theorem steps_enc {r : Int} (h : goodB r = true) (q : List UInt8) : steps (encodeRune r ++ q) = (r.toNat, (encodeRune r).length) :: steps q := by
  rw [steps_cons _ (by simp [enc_ne]), dec_enc h q]
  simp
/-- Induction along the steps. -/
theorem steps_ind {P : List UInt8 → Prop} (h0 : P []) (h1 : ∀ l, l ≠ [] → P (l.drop (decodeL l).2) → P l) : ∀ l, P l := by
  intro l
  obtain ⟨n, hn⟩ : ∃ n, l.length ≤ n := ⟨_, Nat.le_refl _⟩
  induction n generalizing l with
  | zero =>
    have : l = [] := List.eq_nil_of_length_eq_zero (by omega)
    subst this
    exact h0
  | succ n ih =>
    by_cases hne : l = []
    · subst hne; exact h0
    · refine h1 l hne (ih _ ?_)
      have := decodeL_width l
      have hl : 0 < l.length := List.length_pos_iff.2 hne
      rw [List.length_drop]
      omega
theorem steps_len (l : List UInt8) : (steps l).length ≤ l.length := by
  induction l using steps_ind with
  | h0 => simp [steps_nil]
  | h1 l hne ih =>
    have := decodeL_width l
    have hl : 0 < l.length := List.length_pos_iff.2 hne
    rw [steps_cons l hne, List.length_cons]
    rw [List.length_drop] at ih
    omega

/-! ### Texts of good runes -/
def text (rs : List Int) : List UInt8 := rs.flatMap encodeRune
theorem text_nil : text [] = [] := rfl
theorem text_cons (r : Int) (rs : List Int) : text (r :: rs) = encodeRune r ++ text rs := by simp [text]
theorem text_append (a b : List Int) : text (a ++ b) = text a ++ text b := by simp [text]
theorem text_length (rs : List Int) : rs.length ≤ (text rs).length ∧ (text rs).length ≤ 4 * rs.length := by
  induction rs with
  | nil => simp [text]
  | cons r rs ih =>
    have := enc_length r
    rw [text_cons, List.length_append, List.length_cons]
    omega
theorem steps_text (rs : List Int) (h : ∀ r ∈ rs, goodB r = true) (q : List UInt8) : steps (text rs ++ q) = rs.map (fun r => (r.toNat, (encodeRune r).length)) ++ steps q := by
  induction rs with
  | nil => simp [text]
  | cons r rs ih =>
    rw [text_cons, List.append_assoc, steps_enc (h r (by simp)), ih (fun x hx => h x (by simp [hx]))]
    simp

/-- The runes of a string: those of its steps. -/
def runesL (l : List UInt8) : List Int := (steps l).map fun p => (p.1 : Int)
theorem runesL_text (rs : List Int) (h : ∀ r ∈ rs, goodB r = true) (q : List UInt8) : runesL (text rs ++ q) = rs ++ runesL q := by
  unfold runesL
  rw [steps_text rs h q, List.map_append, List.map_map]
  have : ∀ r ∈ rs, ((fun p : Nat × Nat => (p.1 : Int)) ∘ fun r : Int => (r.toNat, (encodeRune r).length)) r = id r := by
    intro r hr
    have := h r hr
    rw [goodB_iff] at this
    simp only [Function.comp, id]
    omega
  rw [List.map_congr_left this, List.map_id]
theorem runesL_nil : runesL [] = [] := rfl
theorem runesL_text' (rs : List Int) (h : ∀ r ∈ rs, goodB r = true) : runesL (text rs) = rs := by
  have := runesL_text rs h []
  rwa [List.append_nil, runesL_nil, List.append_nil] at this
theorem runesL_len (l : List UInt8) : (runesL l).length ≤ l.length := by
  have := steps_len l
  simpa [runesL] using this
/-- A list that is good so far, and one element more. -/
theorem good_snoc {zs : List Int} {k : Nat} (hk : k < zs.length) (h : ∀ z ∈ zs.take k, goodB z = true) (hg : goodB (zs.getD k 0) = true) : ∀ z ∈ zs.take (k + 1), goodB z = true := by
  intro z hz
  rw [List.take_succ_eq_append_getElem hk, List.mem_append] at hz
  rcases hz with hz | hz
  · exact h z hz
  · simp only [List.mem_singleton] at hz
    subst hz
    simpa [List.getD, List.getElem?_eq_getElem hk] using hg
theorem good_all {zs : List Int} {n k : Nat} (hl : zs.length = n) (hk : n ≤ k) (h : ∀ z ∈ zs.take k, goodB z = true) : ∀ z ∈ zs, goodB z = true := by
  rwa [List.take_of_length_le (by omega)] at h
end Go.Proofs.Yteloimkpkbcahaa
