/- Plain facts: encodings are ordered byte by byte as their runes are, and texts as their lists. -/
import Derived.Test.YtmngajddmgigaaaPlain
import Derived.Laws.Strings
namespace Go.Proofs.Ytmngajddmgigaaa
open Go.Lib Go.Op
set_option linter.unusedVariables false
theorem less_nil (x : List UInt8) : bytesLess x [] = false := by cases x <;> rfl
theorem less_cons (a b : UInt8) (x y : List UInt8) : bytesLess (a :: x) (b :: y) = true ↔ a.toNat < b.toNat ∨ (a.toNat = b.toNat ∧ bytesLess x y = true) := by
  simp only [bytesLess, Bool.or_eq_true, Bool.and_eq_true, decide_eq_true_eq, beq_iff_eq, UInt8.lt_iff_toNat_lt, UInt8.toNat_inj]
theorem less_app (x p q : List UInt8) : bytesLess (x ++ p) (x ++ q) = bytesLess p q := by
  induction x with
  | nil => rfl
  | cons a x ih =>
    rw [Bool.eq_iff_iff, List.cons_append, List.cons_append, less_cons, ih]
    simp
theorem less_asymm : ∀ x y : List UInt8, bytesLess x y = true → bytesLess y x = false
  | [], _, _ => less_nil _
  | _ :: _, [], h => by rw [less_nil] at h; cases h
  | a :: x, b :: y, h => by
    rw [less_cons] at h
    cases hh : bytesLess (b :: y) (a :: x) with
    | false => rfl
    | true =>
      rw [less_cons] at hh
      rcases h with h | ⟨h, h1⟩
      · rcases hh with hh | ⟨hh, _⟩ <;> omega
      · rcases hh with hh | ⟨_, hh⟩
        · omega
        · rw [less_asymm x y h1] at hh; cases hh
theorem less_irrefl : ∀ x : List UInt8, bytesLess x x = false
  | [] => rfl
  | a :: x => by
    cases h : bytesLess (a :: x) (a :: x) with
    | false => rfl
    | true =>
      rw [less_cons, less_irrefl x] at h
      rcases h with h | ⟨_, h⟩
      · omega
      · cases h

/-- The encoding of the smaller rune comes first, whatever follows. -/
theorem enc_less {a b : Int} (ha : goodB a = true) (hb : goodB b = true) (h : a < b) (p q : List UInt8) : bytesLess (encodeRune a ++ p) (encodeRune b ++ q) = true := by
  rcases good_cases ha with ca | ca | ca | ca <;> rcases good_cases hb with cb | cb | cb | cb
  all_goals first | (exfalso; omega) | skip
  · rw [enc_one ca.1 ca.2, enc_one cb.1 cb.2]
    simp (disch := omega) only [List.cons_append, List.nil_append, less_cons, ofNat_toNat]
    exact Or.inl (by omega)
  · rw [enc_one ca.1 ca.2, enc_two cb.1 cb.2]
    simp (disch := omega) only [List.cons_append, List.nil_append, less_cons, ofNat_toNat]
    exact Or.inl (by omega)
  · rw [enc_one ca.1 ca.2, enc_three cb]
    simp (disch := omega) only [List.cons_append, List.nil_append, less_cons, ofNat_toNat]
    exact Or.inl (by omega)
  · rw [enc_one ca.1 ca.2, enc_four cb.1 cb.2]
    simp (disch := omega) only [List.cons_append, List.nil_append, less_cons, ofNat_toNat]
    exact Or.inl (by omega)
  · rw [enc_two ca.1 ca.2, enc_two cb.1 cb.2]
    simp (disch := omega) only [List.cons_append, List.nil_append, less_cons, ofNat_toNat]
    by_cases h1 : a / 64 = b / 64
    · exact Or.inr ⟨by omega, Or.inl (by omega)⟩
    · exact Or.inl (by omega)
  · rw [enc_two ca.1 ca.2, enc_three cb]
    simp (disch := omega) only [List.cons_append, List.nil_append, less_cons, ofNat_toNat]
    exact Or.inl (by omega)
  · rw [enc_two ca.1 ca.2, enc_four cb.1 cb.2]
    simp (disch := omega) only [List.cons_append, List.nil_append, less_cons, ofNat_toNat]
    exact Or.inl (by omega)
  · rw [enc_three ca, enc_three cb]
    simp (disch := omega) only [List.cons_append, List.nil_append, less_cons, ofNat_toNat]
    by_cases h1 : a / 4096 = b / 4096
    · by_cases h2 : a / 64 % 64 = b / 64 % 64
      · exact Or.inr ⟨by omega, Or.inr ⟨by omega, Or.inl (by omega)⟩⟩
      · exact Or.inr ⟨by omega, Or.inl (by omega)⟩
    · exact Or.inl (by omega)
  · rw [enc_three ca, enc_four cb.1 cb.2]
    simp (disch := omega) only [List.cons_append, List.nil_append, less_cons, ofNat_toNat]
    exact Or.inl (by omega)
  · rw [enc_four ca.1 ca.2, enc_four cb.1 cb.2]
    simp (disch := omega) only [List.cons_append, List.nil_append, less_cons, ofNat_toNat]
    by_cases h1 : a / 262144 = b / 262144
    · by_cases h2 : a / 4096 % 64 = b / 4096 % 64
      · by_cases h3 : a / 64 % 64 = b / 64 % 64
        · exact Or.inr ⟨by omega, Or.inr ⟨by omega, Or.inr ⟨by omega, Or.inl (by omega)⟩⟩⟩
        · exact Or.inr ⟨by omega, Or.inr ⟨by omega, Or.inl (by omega)⟩⟩
      · exact Or.inr ⟨by omega, Or.inl (by omega)⟩
    · exact Or.inl (by omega)

theorem text_ne (r : Int) (rs : List Int) : text (r :: rs) ≠ [] := by simp [text_cons, enc_ne]
theorem text_less : ∀ (a b : List Int), (∀ z ∈ a, goodB z = true) → (∀ z ∈ b, goodB z = true) → (a = [] ∨ b = [] ∨ a.head? ≠ b.head?) →
    bytesLess (text a) (text b) = decide (b ≠ [] ∧ (a = [] ∨ a.getD 0 0 < b.getD 0 0)) ∧ (text a = text b ↔ a = [] ∧ b = [])
  | [], [], _, _, _ => by simp [text_nil, bytesLess]
  | [], s :: b, _, _, _ => by
    have h := text_ne s b
    obtain ⟨x, t, ht⟩ := List.exists_cons_of_ne_nil h
    rw [text_nil, ht]
    simp [bytesLess]
  | r :: a, [], _, _, _ => by
    rw [text_nil, less_nil]
    simp [text_ne]
  | r :: a, s :: b, ha, hb, h => by
    have hne : r ≠ s := by simpa using h
    have gr := ha r (by simp)
    have gs := hb s (by simp)
    rw [text_cons, text_cons]
    refine ⟨?_, ?_⟩
    · by_cases hlt : r < s
      · rw [enc_less gr gs hlt]
        simp [hlt]
      · rw [less_asymm _ _ (enc_less gs gr (by omega) (text b) (text a))]
        simp [hlt]
    · constructor
      · intro he
        exact absurd (enc_pre gr gs he).1 hne
      · intro he
        cases he.1
/-- Texts of good runes are ordered as their lists are, where k elements are the same and then comes an end or a difference. -/
theorem order_text (a b : List Int) (k : Nat) (ha : ∀ z ∈ a, goodB z = true) (hb : ∀ z ∈ b, goodB z = true) (hka : k ≤ a.length) (hkb : k ≤ b.length) (hk : a.take k = b.take k)
    (hd : k = a.length ∨ k = b.length ∨ a.getD k 0 ≠ b.getD k 0) :
    bytesLess (text a) (text b) = decide (k < b.length ∧ (k = a.length ∨ a.getD k 0 < b.getD k 0)) ∧ (text a = text b ↔ k = a.length ∧ k = b.length) := by
  have ea : text a = text (a.take k) ++ text (a.drop k) := by rw [← text_append, List.take_append_drop]
  have eb : text b = text (a.take k) ++ text (b.drop k) := by rw [hk, ← text_append, List.take_append_drop]
  have hh : ∀ l : List Int, l.drop k = [] ↔ l.length ≤ k := fun l => List.drop_eq_nil_iff
  have hg : ∀ l : List Int, (l.drop k).getD 0 0 = l.getD k 0 := fun l => by simp [List.getD, List.getElem?_drop]
  have h := text_less (a.drop k) (b.drop k) (fun z hz => ha z (List.mem_of_mem_drop hz)) (fun z hz => hb z (List.mem_of_mem_drop hz)) (by
    rcases hd with h | h | h
    · exact Or.inl ((hh a).2 (by omega))
    · exact Or.inr (Or.inl ((hh b).2 (by omega)))
    · by_cases h1 : k < a.length
      · by_cases h2 : k < b.length
        · refine Or.inr (Or.inr ?_)
          intro he
          apply h
          rw [List.head?_drop, List.head?_drop] at he
          simp [List.getD, he]
        · exact Or.inr (Or.inl ((hh b).2 (by omega)))
      · exact Or.inl ((hh a).2 (by omega)))
  rw [hg, hg] at h
  refine ⟨?_, ?_⟩
  · rw [ea, eb, less_app, h.1]
    congr 1
    rw [ne_eq, hh, hh]
    simp only [eq_iff_iff]
    constructor
    · rintro ⟨h1, h2⟩; exact ⟨by omega, h2.imp (fun x => by omega) id⟩
    · rintro ⟨h1, h2⟩; exact ⟨by omega, h2.imp (fun x => by omega) id⟩
  · rw [ea, eb]
    constructor
    · intro he
      obtain ⟨h1, h2⟩ := h.2.1 (List.append_cancel_left he)
      rw [hh] at h1 h2
      omega
    · rintro ⟨h1, h2⟩
      rw [h.2.2 ⟨(hh a).2 (by omega), (hh b).2 (by omega)⟩]
end Go.Proofs.Ytmngajddmgigaaa
