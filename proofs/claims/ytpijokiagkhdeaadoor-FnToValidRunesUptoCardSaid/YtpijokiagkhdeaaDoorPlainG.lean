/- Plain facts: what is made valid: the pieces that are encodings, with one replacement for each run of bytes that are none. -/
import Derived.Test.YtpijokiagkhdeaaDoorPlainF
namespace Go.Proofs.YtpijokiagkhdeaaDoor
open Go.Lib
set_option linter.unusedVariables false
def toVGo (rep : List UInt8) : Nat → Bool → List UInt8 → List UInt8
  | 0, _, _ => []
  | f + 1, inv, l => if l = [] then [] else if bad l then (if inv then [] else rep) ++ toVGo rep f true (l.drop 1) else l.take (decodeL l).2 ++ toVGo rep f false (l.drop (decodeL l).2)
def toV (rep : List UInt8) (inv : Bool) (l : List UInt8) : List UInt8 := toVGo rep l.length inv l
theorem toVGo_nil (rep : List UInt8) : ∀ f inv, toVGo rep f inv [] = []
  | 0, _ => rfl
  | _ + 1, _ => by simp [toVGo]
theorem toVGo_fuel (rep : List UInt8) : ∀ (f g : Nat) (inv : Bool) (l : List UInt8), l.length ≤ f → l.length ≤ g → toVGo rep f inv l = toVGo rep g inv l
  | 0, g, inv, l, hf, _ => by
    have : l = [] := List.eq_nil_of_length_eq_zero (by omega)
    subst this
    rw [toVGo_nil, toVGo_nil]
  | f + 1, 0, inv, l, _, hg => by
    have : l = [] := List.eq_nil_of_length_eq_zero (by omega)
    subst this
    rw [toVGo_nil, toVGo_nil]
  | f + 1, g + 1, inv, l, hf, hg => by
    unfold toVGo
    by_cases hne : l = []
    · simp [hne]
    · have hw := decodeL_width l
      have hl : 0 < l.length := List.length_pos_iff.2 hne
      rw [if_neg hne, if_neg hne, toVGo_fuel rep f g true (l.drop 1) (by rw [List.length_drop]; omega) (by rw [List.length_drop]; omega),
        toVGo_fuel rep f g false (l.drop (decodeL l).2) (by rw [List.length_drop]; omega) (by rw [List.length_drop]; omega)]
theorem toV_nil (rep : List UInt8) (inv : Bool) : toV rep inv [] = [] := rfl
theorem toV_bad (rep : List UInt8) (inv : Bool) (l : List UInt8) (hne : l ≠ []) (hb : bad l) : toV rep inv l = (if inv then [] else rep) ++ toV rep true (l.drop 1) := by
  have hl : 0 < l.length := List.length_pos_iff.2 hne
  obtain ⟨n, hn⟩ : ∃ n, l.length = n + 1 := ⟨l.length - 1, by omega⟩
  unfold toV
  rw [hn]
  show (if l = [] then [] else if bad l then _ else _) = _
  rw [if_neg hne, if_pos hb, toVGo_fuel rep n (l.drop 1).length true _ (by rw [List.length_drop]; omega) (Nat.le_refl _)]
theorem toV_good (rep : List UInt8) (inv : Bool) (l : List UInt8) (hne : l ≠ []) (hb : ¬ bad l) : toV rep inv l = l.take (decodeL l).2 ++ toV rep false (l.drop (decodeL l).2) := by
  have hl : 0 < l.length := List.length_pos_iff.2 hne
  have hw := decodeL_width l
  obtain ⟨n, hn⟩ : ∃ n, l.length = n + 1 := ⟨l.length - 1, by omega⟩
  unfold toV
  rw [hn]
  show (if l = [] then [] else if bad l then _ else _) = _
  rw [if_neg hne, if_neg hb, toVGo_fuel rep n (l.drop (decodeL l).2).length false _ (by rw [List.length_drop]; omega) (Nat.le_refl _)]
theorem toV_enc (rep : List UInt8) (inv : Bool) {r : Int} (h : goodB r = true) (q : List UInt8) : toV rep inv (encodeRune r ++ q) = encodeRune r ++ toV rep false q := by
  rw [toV_good rep inv _ (by simp [enc_ne]) (not_bad_enc h q), dec_enc h q]
  simp
theorem toV_text (rep : List UInt8) (rs : List Int) (h : ∀ r ∈ rs, goodB r = true) (q : List UInt8) : toV rep false (text rs ++ q) = text rs ++ toV rep false q := by
  induction rs with
  | nil => simp [text]
  | cons r rs ih => rw [text_cons, List.append_assoc, toV_enc rep false (h r (by simp)), ih (fun x hx => h x (by simp [hx])), List.append_assoc]
theorem toV_front (rep : List UInt8) {p : List UInt8} (h : validB p = true) (q : List UInt8) : toV rep false (p ++ q) = p ++ toV rep false q := by
  obtain ⟨rs, hg, rfl⟩ := (valid_iff p).1 h
  exact toV_text rep rs hg q
theorem toV_valid (rep : List UInt8) {p : List UInt8} (h : validB p = true) : toV rep false p = p := by
  have := toV_front rep h []
  rwa [List.append_nil, toV_nil, List.append_nil] at this
/-- What is made valid is valid, if the replacement is. -/
theorem toV_ok {rep : List UInt8} (hr : validB rep = true) (l : List UInt8) : ∀ inv, validB (toV rep inv l) = true := by
  induction l using steps_ind with
  | h0 => intro inv; rfl
  | h1 l hne ih =>
    intro inv
    by_cases hb : bad l
    · rw [toV_bad rep inv l hne hb]
      have h2 := hb.2
      rw [h2] at ih
      cases inv
      · rw [if_neg (by simp), valid_front hr]; exact ih true
      · rw [if_pos rfl, List.nil_append]; exact ih true
    · rw [toV_good rep inv l hne hb, ← encode_decode l hne hb, validB_enc (decodeL_good l)]
      exact ih false
theorem toV_empty {rep l : List UInt8} (hne : l ≠ []) (h : toV rep false l = []) : rep = [] := by
  by_cases hb : bad l
  · rw [toV_bad rep false l hne hb, if_neg (by simp)] at h
    exact (List.append_eq_nil_iff.1 h).1
  · exfalso
    rw [toV_good rep false l hne hb, ← encode_decode l hne hb] at h
    exact enc_ne _ (List.append_eq_nil_iff.1 h).1
/-- With nothing in their place. -/
theorem toV_none (l : List UInt8) : ∀ inv, (toV [] inv l).length ≤ l.length ∧ cnt (toV [] inv l) ≤ cnt l ∧ (validB l = false → (toV [] inv l).length < l.length ∧ cnt (toV [] inv l) < cnt l) := by
  induction l using steps_ind with
  | h0 => intro inv; exact ⟨by simp [toV_nil], Nat.le_refl _, fun h => by rw [validB_nil] at h; cases h⟩
  | h1 l hne ih =>
    intro inv
    have hw := decodeL_width l
    have hle := decodeL_le l hne
    have hl : 0 < l.length := List.length_pos_iff.2 hne
    rw [cnt_step l hne]
    by_cases hb : bad l
    · have h2 := hb.2
      rw [h2] at ih ⊢
      have hx : toV [] inv l = toV [] true (l.drop 1) := by
        rw [toV_bad [] inv l hne hb]
        cases inv <;> simp
      rw [hx]
      obtain ⟨i1, i2, _⟩ := ih true
      rw [List.length_drop] at i1
      exact ⟨by omega, by omega, fun _ => ⟨by omega, by omega⟩⟩
    · obtain ⟨i1, i2, i3⟩ := ih false
      rw [List.length_drop] at i1 i3
      have he := encode_decode l hne hb
      have hlen := congrArg List.length he
      rw [List.length_take] at hlen
      rw [toV_good [] inv l hne hb, ← he, List.length_append, cnt_enc (decodeL_good l), validB_step l hne, decide_eq_false hb, Bool.not_false, Bool.true_and]
      exact ⟨by omega, by omega, fun h => by obtain ⟨j1, j2⟩ := i3 h; exact ⟨by omega, by omega⟩⟩
/-- How long it is: at most this. -/
theorem toV_len (rep l : List UInt8) : ∀ inv, (toV rep inv l).length ≤ l.length * (rep.length + 1) := by
  induction l using steps_ind with
  | h0 => intro inv; simp [toV_nil]
  | h1 l hne ih =>
    intro inv
    have hw := decodeL_width l
    have hle := decodeL_le l hne
    have hl : 0 < l.length := List.length_pos_iff.2 hne
    by_cases hb : bad l
    · have h2 := hb.2
      rw [h2] at ih
      have i := ih true
      rw [List.length_drop] at i
      rw [toV_bad rep inv l hne hb, List.length_append]
      have h3 : (if inv then [] else rep : List UInt8).length ≤ rep.length := by cases inv <;> simp
      have h4 : l.length * (rep.length + 1) = (l.length - 1) * (rep.length + 1) + (rep.length + 1) := by
        obtain ⟨m, hm⟩ : ∃ m, l.length = m + 1 := ⟨l.length - 1, by omega⟩
        rw [hm, Nat.add_sub_cancel, Nat.succ_mul]
      omega
    · have i := ih false
      rw [List.length_drop] at i
      rw [toV_good rep inv l hne hb, List.length_append, List.length_take]
      have h4 : l.length * (rep.length + 1) = (l.length - (decodeL l).2) * (rep.length + 1) + (decodeL l).2 * (rep.length + 1) := by
        rw [← Nat.add_mul]
        congr 1
        omega
      have h5 : (decodeL l).2 * 1 ≤ (decodeL l).2 * (rep.length + 1) := Nat.mul_le_mul_left _ (by omega)
      omega
/-! ### The steps, told one by one -/
/-- How many bytes are kept, and how many runs are replaced. -/
def keptL (ps : List (Nat × Nat)) : Nat := (ps.map fun p => if wrongB p then 0 else p.2).sum
def runsL : Bool → List (Nat × Nat) → Nat
  | _, [] => 0
  | inv, p :: ps => (if wrongB p && !inv then 1 else 0) + runsL (wrongB p) ps
theorem wrong_dec (l : List UInt8) : wrongB (decodeL l) = decide (bad l) := by
  rw [Bool.eq_iff_iff, wrongB_iff, decide_eq_true_eq]
theorem toV_count (rep l : List UInt8) : ∀ inv, (toV rep inv l).length = keptL (steps l) + runsL inv (steps l) * rep.length := by
  induction l using steps_ind with
  | h0 => intro inv; simp [toV_nil, steps_nil, keptL, runsL]
  | h1 l hne ih =>
    intro inv
    have hle := decodeL_le l hne
    rw [steps_cons l hne]
    simp only [keptL, List.map_cons, List.sum_cons, runsL, wrong_dec]
    by_cases hb : bad l
    · have h2 := hb.2
      rw [h2] at ih ⊢
      have i := ih true
      rw [toV_bad rep inv l hne hb, List.length_append, i, decide_eq_true hb]
      simp only [keptL]
      cases inv
      · simp only [Bool.not_false, Bool.and_true, if_true, if_false, Bool.false_eq_true, Nat.add_mul, Nat.one_mul]
        omega
      · simp only [Bool.not_true, Bool.and_false, if_true, if_false, Bool.false_eq_true, List.length_nil, Nat.zero_add]
    · have i := ih false
      rw [toV_good rep inv l hne hb, List.length_append, i, decide_eq_false hb, List.length_take]
      simp only [keptL, Bool.false_and, if_false, Bool.false_eq_true, Nat.zero_add]
      omega
/-- The runes that are left if RuneError stands for each run. -/
def dueL : Bool → List (Nat × Nat) → List Int
  | _, [] => []
  | inv, p :: ps => (if wrongB p && inv then [] else [(p.1 : Int)]) ++ dueL (wrongB p) ps
theorem toV_runes (l : List UInt8) : ∀ inv, runesL (toV (encodeRune 65533) inv l) = dueL inv (steps l) := by
  have hg : goodB 65533 = true := by decide
  induction l using steps_ind with
  | h0 => intro inv; rfl
  | h1 l hne ih =>
    intro inv
    rw [steps_cons l hne]
    simp only [dueL, wrong_dec]
    by_cases hb : bad l
    · have h2 := hb.2
      rw [h2] at ih
      rw [toV_bad _ inv l hne hb, h2, decide_eq_true hb, Bool.true_and]
      cases inv
      · rw [if_neg (by simp), if_neg (by simp), hb.1]
        have : runesL (encodeRune 65533 ++ toV (encodeRune 65533) true (List.drop 1 l)) = 65533 :: runesL (toV (encodeRune 65533) true (List.drop 1 l)) := by
          unfold runesL
          rw [steps_enc hg]
          rfl
        rw [this, ih true]
        rfl
      · rw [if_pos rfl, if_pos rfl, List.nil_append, List.nil_append, ih true]
    · rw [toV_good _ inv l hne hb, ← encode_decode l hne hb, decide_eq_false hb, Bool.false_and, if_neg (by simp)]
      unfold runesL
      rw [steps_enc (decodeL_good l), List.map_cons]
      have := ih false
      unfold runesL at this
      rw [this]
      simp
/-- The bound of the second form. -/
theorem toV_small {rep l : List UInt8} (h1 : l.length ≤ 1048576) (h2 : rep.length ≤ 1048576) (inv : Bool) : (toV rep inv l).length ≤ 1099512676352 := by
  have h3 := toV_len rep l inv
  have h4 : l.length * (rep.length + 1) ≤ 1048576 * 1048577 := Nat.mul_le_mul h1 (by omega)
  omega
/-- Bytes with which nothing begins. -/
theorem toV_never (rep : List UInt8) : ∀ (bs : List UInt8) (inv : Bool) (q : List UInt8), (∀ b ∈ bs, b.toNat = 192 ∨ b.toNat = 193 ∨ 245 ≤ b.toNat) → toV rep inv (bs ++ q) = (if inv || bs.isEmpty then [] else rep) ++ toV rep (inv || !bs.isEmpty) q := by
  intro bs
  induction bs with
  | nil => intro inv q _; cases inv <;> simp
  | cons b bs ih =>
    intro inv q h
    have hd := dec_never b (bs ++ q) (h b (by simp))
    have hb : bad (b :: bs ++ q) := by unfold bad; rw [List.cons_append, hd]; exact ⟨rfl, rfl⟩
    rw [toV_bad rep inv _ (by simp) hb, List.cons_append, List.drop_succ_cons, List.drop_zero, ih true q (fun x hx => h x (by simp [hx]))]
    cases inv <;> simp
theorem toV_text' (rep : List UInt8) (inv : Bool) (rs : List Int) (h : ∀ r ∈ rs, goodB r = true) : toV rep inv (text rs) = text rs := by
  cases rs with
  | nil => rfl
  | cons r rs =>
    have h1 := toV_text rep rs (fun x hx => h x (by simp [hx])) []
    rw [List.append_nil, toV_nil, List.append_nil] at h1
    rw [text_cons, toV_enc rep inv (h r (by simp)), h1]
end Go.Proofs.YtpijokiagkhdeaaDoor
