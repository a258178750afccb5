/- Plain facts: bytes with which no encoding begins: forms that are too long, halves, numbers beyond the last rune, spoilt bytes, beginnings and ends of encodings. -/
import Derived.Test.YtdhofjhmbdeibaaDoorPlainD
import Derived.Test.YtdhofjhmbdeibaaDoorPlainE
import Derived.Test.YtdhofjhmbdeibaaDoorLits
namespace Go.Proofs.YtdhofjhmbdeibaaDoor
open Go.Lib
set_option linter.unusedVariables false
/-- A byte that begins no encoding here, and further bytes that can be no first ones: each stands alone. -/
theorem lead_alone {b : UInt8} {m : List UInt8} (hm : ∀ x ∈ m, x.toNat / 64 = 2) (hb : decodeL (b :: m) = (65533, 1)) :
    cnt (b :: m) = (b :: m).length ∧ validB (b :: m) = false ∧ decodeLastL (b :: m) = (65533, 1) := by
  refine ⟨?_, ?_, ?_⟩
  · rw [cnt_step _ (by simp), hb]
    simp only [List.drop_succ_cons, List.drop_zero, List.length_cons]
    have := cnt_cont m [] hm
    rw [List.append_nil, cnt_nil] at this
    omega
  · rw [validB_step _ (by simp), decide_eq_true (show bad (b :: m) by unfold bad; rw [hb]; exact ⟨rfl, rfl⟩)]
    rfl
  · rcases last_cases (b :: m) (by simp) with ⟨r, q, hr, hl, hd⟩ | ⟨hd, _⟩
    · exfalso
      cases q with
      | nil =>
        rw [List.nil_append] at hl
        have h2 := dec_enc' hr
        rw [← hl, hb] at h2
        exact not_bad_enc hr [] (by rw [List.append_nil, ← hl]; unfold bad; rw [hb]; exact ⟨rfl, rfl⟩)
      | cons c q =>
        rw [List.cons_append] at hl
        have h2 := (List.cons.inj hl).2
        have h3 := enc_head hr
        obtain ⟨d, e, he⟩ := List.exists_cons_of_ne_nil (enc_ne r)
        rw [he] at h3 h2
        simp only [List.getD_cons_zero] at h3
        exact h3 (hm d (by rw [h2]; simp))
    · exact hd
theorem conts_alone {m : List UInt8} (hne : m ≠ []) (hm : ∀ x ∈ m, x.toNat / 64 = 2) :
    decodeL m = (65533, 1) ∧ cnt m = m.length ∧ validB m = false ∧ decodeLastL m = (65533, 1) := by
  obtain ⟨b, t, rfl⟩ := List.exists_cons_of_ne_nil hne
  have hb := cont_step b t (hm b (by simp))
  exact ⟨hb, lead_alone (fun x hx => hm x (by simp [hx])) hb⟩
/-! ### Beginnings and ends of an encoding -/
theorem pre_take {r : Int} (h : goodB r = true) (k : Nat) (h1 : 1 ≤ k) (h2 : k < (encodeRune r).length) :
    begB ((encodeRune r).take k) = true ∧ dec ((encodeRune r).take k) = (65533, 1) ∧ validB ((encodeRune r).take k) = false ∧ cnt ((encodeRune r).take k) = k := by
  have hp : (encodeRune r).take k ≠ [] := by
    intro h0
    have := congrArg List.length h0
    rw [List.length_take, List.length_nil] at this
    omega
  have ht : (encodeRune r).drop k ≠ [] := by
    intro h0
    rw [List.drop_eq_nil_iff] at h0
    omega
  have he := List.take_append_drop k (encodeRune r)
  have hb := bad_prefix h hp ht he
  refine ⟨beg_enc h hp ht he, ?_, ?_, ?_⟩
  · rw [dec_of hp]; exact Prod.ext hb.1 hb.2
  · rw [validB_step _ hp, decide_eq_true hb]; rfl
  · rw [cnt_prefix h hp ht he, List.length_take]; omega
theorem suf_drop {r : Int} (h : goodB r = true) (k : Nat) (h1 : 1 ≤ k) (h2 : k < (encodeRune r).length) :
    dec ((encodeRune r).drop k) = (65533, 1) ∧ decodeLastL ((encodeRune r).drop k) = (65533, 1) ∧ validB ((encodeRune r).drop k) = false ∧ cnt ((encodeRune r).drop k) = (encodeRune r).length - k := by
  have hne : (encodeRune r).drop k ≠ [] := by
    intro h0
    rw [List.drop_eq_nil_iff] at h0
    omega
  obtain ⟨a, b, c, d⟩ := conts_alone hne (enc_conts h k h1)
  refine ⟨by rw [dec_of hne]; exact a, d, c, by rw [b, List.length_drop]⟩
/-! ### Single bytes -/
theorem dec_ascii (b : UInt8) (q : List UInt8) (h : b.toNat < 128) : decodeL (b :: q) = (b.toNat, 1) := by
  rw [decodeL_N]
  exact decodeN_ascii _ _ _ _ _ (by simpa using h)
theorem dec_lone (b : UInt8) (h : 128 ≤ b.toNat) : decodeL [b] = (65533, 1) := by
  rw [decodeL_N]
  exact decodeN_alone _ _ _ _ _ (by simpa using h) (Or.inl (by simp))
theorem valid_lone (b : UInt8) : validB [b] = decide (b.toNat < 128) := by
  rw [validB_step _ (by simp)]
  by_cases h : b.toNat < 128
  · rw [decide_eq_true h, dec_ascii b [] h]
    have : ¬ bad [b] := by
      unfold bad
      rw [dec_ascii b [] h]
      simp only
      omega
    rw [decide_eq_false this]
    rfl
  · have hb := dec_lone b (by omega)
    rw [decide_eq_false h, decide_eq_true (show bad [b] by unfold bad; rw [hb]; exact ⟨rfl, rfl⟩)]
    rfl
theorem dec_never (b : UInt8) (q : List UInt8) (h : b.toNat = 192 ∨ b.toNat = 193 ∨ 245 ≤ b.toNat) : decodeL (b :: q) = (65533, 1) := by
  rw [decodeL_N]
  have := b.toNat_lt
  exact decodeN_bad _ _ _ _ _ (by simp only [List.getD_cons_zero]; omega)
theorem last_never (b : UInt8) (q : List UInt8) (h : b.toNat = 192 ∨ b.toNat = 193 ∨ 245 ≤ b.toNat) : decodeLastL (q ++ [b]) = (65533, 1) := by
  rcases last_cases (q ++ [b]) (by simp) with ⟨r, t, hr, hl, hd⟩ | ⟨hd, _⟩
  · exfalso
    have hlen := enc_length r
    obtain ⟨e, y, he⟩ : ∃ e y, encodeRune r = e ++ [y] := ⟨(encodeRune r).dropLast, (encodeRune r).getLast (enc_ne r), (List.dropLast_concat_getLast (enc_ne r)).symm⟩
    have hy : b = y := by
      rw [he, ← List.append_assoc] at hl
      have := List.append_inj_right' hl rfl
      simpa using this
    subst hy
    by_cases h1 : e = []
    · have h3 : (encodeRune r).length = 1 := by rw [he, h1]; rfl
      rcases good_cases hr with c | c | c | c
      · rw [enc_one c.1 c.2, h1, List.nil_append] at he
        have := (List.cons.inj he).1
        rw [← this, ofNat_toNat (by omega)] at h
        omega
      · rw [enc_two c.1 c.2] at h3; simp at h3
      · rw [enc_three c] at h3; simp at h3
      · rw [enc_four c.1 c.2] at h3; simp at h3
    · have h2 : 0 < e.length := List.length_pos_iff.2 h1
      have := enc_conts hr e.length h2 b (by rw [he, List.drop_left]; simp)
      omega
  · exact hd
/-! ### Forms that are no encodings -/
def twoF (r : Int) : List UInt8 := [UInt8.ofNat (192 + r / 64 % 32).toNat, UInt8.ofNat (128 + r % 64).toNat]
def threeF (r : Int) : List UInt8 := [UInt8.ofNat (224 + r / 4096 % 16).toNat, UInt8.ofNat (128 + r / 64 % 64).toNat, UInt8.ofNat (128 + r % 64).toNat]
def fourF (r : Int) : List UInt8 := [UInt8.ofNat (240 + r / 262144 % 8).toNat, UInt8.ofNat (128 + r / 4096 % 64).toNat, UInt8.ofNat (128 + r / 64 % 64).toNat, UInt8.ofNat (128 + r % 64).toNat]
theorem two_bad {r : Int} (h0 : 0 ≤ r) (h1 : r ≤ 127) (q : List UInt8) : decodeL (twoF r ++ q) = (65533, 1) := by
  rw [twoF, decodeL_N]
  simp only [List.cons_append, List.nil_append, List.length_cons, List.getD_cons_zero, List.getD_cons_succ]
  rw [ofNat_toNat (by omega), ofNat_toNat (by omega)]
  exact decodeN_bad _ _ _ _ _ (by omega)
theorem three_bad {r : Int} (h0 : 0 ≤ r) (h1 : r ≤ 2047 ∨ (55296 ≤ r ∧ r ≤ 57343)) (q : List UInt8) : decodeL (threeF r ++ q) = (65533, 1) := by
  rw [threeF, decodeL_N]
  simp only [List.cons_append, List.nil_append, List.length_cons, List.getD_cons_zero, List.getD_cons_succ]
  rw [ofNat_toNat (by omega), ofNat_toNat (by omega), ofNat_toNat (by omega)]
  unfold decodeN
  rw [if_neg (by omega), if_neg (by omega), if_pos (by omega), if_neg (by omega)]
theorem four_bad {r : Int} (h0 : 0 ≤ r) (h1 : r ≤ 65535 ∨ (1114112 ≤ r ∧ r ≤ 2097151)) (q : List UInt8) : decodeL (fourF r ++ q) = (65533, 1) := by
  rw [fourF, decodeL_N]
  simp only [List.cons_append, List.nil_append, List.length_cons, List.getD_cons_zero, List.getD_cons_succ]
  rw [ofNat_toNat (by omega), ofNat_toNat (by omega), ofNat_toNat (by omega), ofNat_toNat (by omega)]
  unfold decodeN
  rw [if_neg (by omega), if_neg (by omega), if_neg (by omega), if_pos (by omega), if_neg (by omega)]
theorem two_alone {r : Int} (h0 : 0 ≤ r) (h1 : r ≤ 127) : cnt (twoF r) = 2 ∧ validB (twoF r) = false ∧ decodeLastL (twoF r) = (65533, 1) := by
  have hb := two_bad h0 h1 []
  rw [List.append_nil] at hb
  refine lead_alone ?_ hb
  intro x hx
  simp only [List.mem_cons, List.not_mem_nil, or_false] at hx
  subst hx
  rw [ofNat_toNat (by omega)]
  omega
theorem three_alone {r : Int} (h0 : 0 ≤ r) (h1 : r ≤ 2047 ∨ (55296 ≤ r ∧ r ≤ 57343)) : cnt (threeF r) = 3 ∧ validB (threeF r) = false ∧ decodeLastL (threeF r) = (65533, 1) := by
  have hb := three_bad h0 h1 []
  rw [List.append_nil] at hb
  refine lead_alone ?_ hb
  intro x hx
  simp only [List.mem_cons, List.not_mem_nil, or_false] at hx
  rcases hx with rfl | rfl <;> rw [ofNat_toNat (by omega)] <;> omega
theorem four_alone {r : Int} (h0 : 0 ≤ r) (h1 : r ≤ 65535 ∨ (1114112 ≤ r ∧ r ≤ 2097151)) : cnt (fourF r) = 4 ∧ validB (fourF r) = false ∧ decodeLastL (fourF r) = (65533, 1) := by
  have hb := four_bad h0 h1 []
  rw [List.append_nil] at hb
  refine lead_alone ?_ hb
  intro x hx
  simp only [List.mem_cons, List.not_mem_nil, or_false] at hx
  rcases hx with rfl | rfl | rfl <;> rw [ofNat_toNat (by omega)] <;> omega
/-! ### A spoilt byte -/
theorem spoilt {r : Int} (h : goodB r = true) (i : Nat) (h1 : 1 ≤ i) (h2 : i < (encodeRune r).length) (b : UInt8) (hb : b.toNat / 64 ≠ 2) (q : List UInt8) : decodeL ((encodeRune r).set i b ++ q) = (65533, 1) := by
  have b256 := b.toNat_lt
  rcases good_cases h with c | c | c | c
  · rw [enc_one c.1 c.2] at h2; simp at h2; omega
  · rw [enc_two c.1 c.2] at h2 ⊢
    simp only [List.length_cons, List.length_nil] at h2
    obtain rfl : i = 1 := by omega
    rw [decodeL_N]
    simp only [List.set_cons_succ, List.set_cons_zero, List.cons_append, List.nil_append, List.length_cons, List.getD_cons_zero, List.getD_cons_succ]
    rw [ofNat_toNat (by omega)]
    unfold decodeN
    rw [if_neg (by omega), if_neg (by omega), if_neg (by omega), if_neg (by omega)]
  · rw [enc_three c] at h2 ⊢
    simp only [List.length_cons, List.length_nil] at h2
    have hi : i = 1 ∨ i = 2 := by omega
    rcases hi with rfl | rfl
    all_goals
      rw [decodeL_N]
      simp only [List.set_cons_succ, List.set_cons_zero, List.cons_append, List.nil_append, List.length_cons, List.getD_cons_zero, List.getD_cons_succ]
      rw [ofNat_toNat (n := (224 + r / 4096).toNat) (by omega)]
      unfold decodeN
      rw [if_neg (by omega), if_neg (by omega), if_neg (by omega), if_neg (by omega)]
  · rw [enc_four c.1 c.2] at h2 ⊢
    simp only [List.length_cons, List.length_nil] at h2
    have hi : i = 1 ∨ i = 2 ∨ i = 3 := by omega
    rcases hi with rfl | rfl | rfl
    all_goals
      rw [decodeL_N]
      simp only [List.set_cons_succ, List.set_cons_zero, List.cons_append, List.nil_append, List.length_cons, List.getD_cons_zero, List.getD_cons_succ]
      rw [ofNat_toNat (n := (240 + r / 262144).toNat) (by omega)]
      unfold decodeN
      rw [if_neg (by omega), if_neg (by omega), if_neg (by omega), if_neg (by omega)]
theorem spoilt_valid {r : Int} (h : goodB r = true) (i : Nat) (h1 : 1 ≤ i) (h2 : i < (encodeRune r).length) (b : UInt8) (hb : b.toNat / 64 ≠ 2) : validB ((encodeRune r).set i b) = false := by
  have hne : (encodeRune r).set i b ≠ [] := by
    intro h0
    have := congrArg List.length h0
    rw [List.length_set] at this
    simp at this
    exact enc_ne r this
  have hd := spoilt h i h1 h2 b hb []
  rw [List.append_nil] at hd
  rw [validB_step _ hne, decide_eq_true (show bad ((encodeRune r).set i b) by unfold bad; rw [hd]; exact ⟨rfl, rfl⟩)]
  rfl
/-! ### Cuts of a text -/
theorem fresh_drop {l : List UInt8} {i : Nat} (hi : i < l.length) (h : (l.getD i 0).toNat / 64 ≠ 2) : fresh (l.drop i) := by
  right
  have : (l.drop i).getD 0 0 = l.getD i 0 := by simp [List.getD]
  rw [this]
  exact h
theorem stale_drop {l : List UInt8} {i : Nat} (hi : i < l.length) (h : (l.getD i 0).toNat / 64 = 2) : validB (l.drop i) = false := by
  have hne : l.drop i ≠ [] := by
    intro h0
    rw [List.drop_eq_nil_iff] at h0
    omega
  have h0 : l.drop i = l.getD i 0 :: l.drop (i + 1) := by
    rw [List.drop_eq_getElem_cons hi]
    simp [List.getD, List.getElem?_eq_getElem hi]
  rw [validB_step _ hne, decide_eq_true (show bad (l.drop i) by unfold bad; rw [h0, cont_step _ _ h]; exact ⟨rfl, rfl⟩)]
  rfl
/-- If the beginning is valid, the whole is valid just if the rest is. -/
theorem valid_front {p : List UInt8} (h : validB p = true) (q : List UInt8) : validB (p ++ q) = validB q := by
  obtain ⟨rs, hg, rfl⟩ := (valid_iff p).1 h
  exact validB_text rs hg q
theorem valid_fresh {l : List UInt8} (h : validB l = true) : fresh l := by
  obtain ⟨rs, hg, rfl⟩ := (valid_iff l).1 h
  exact fresh_text hg
theorem stale_take {l : List UInt8} (hv : validB l = true) {i : Nat} (hi : i < l.length) (h : (l.getD i 0).toNat / 64 = 2) : validB (l.take i) = false := by
  cases hw : validB (l.take i) with
  | false => rfl
  | true =>
    exfalso
    have h1 := valid_front hw (l.drop i)
    rw [List.take_append_drop, hv, stale_drop hi h] at h1
    cases h1
theorem fresh_cut {l : List UInt8} (hv : validB l = true) {i : Nat} (h : fresh (l.drop i)) : validB (l.take i) = true ∧ validB (l.drop i) = true ∧ cnt (l.take i) + cnt (l.drop i) = cnt l := by
  have h1 := validB_fresh (l.take i) h
  have h2 := cnt_fresh (l.take i) h
  rw [List.take_append_drop] at h1 h2
  rw [hv] at h1
  have h3 := (Bool.and_eq_true _ _).mp h1.symm
  exact ⟨h3.1, h3.2, h2.symm⟩
theorem text_cnt {rs : List Int} (h : ∀ r ∈ rs, goodB r = true) : cnt (text rs) = rs.length := by
  have := cnt_text rs h []
  rw [List.append_nil, cnt_nil, Nat.add_zero] at this
  exact this
/-- Three valid texts of which two are known. -/
theorem join_valid (p q : List UInt8) : (validB p = true → validB q = true → validB (p ++ q) = true) ∧ (validB p = true → validB (p ++ q) = true → validB q = true) ∧ (validB q = true → validB (p ++ q) = true → validB p = true) := by
  refine ⟨fun hp hq => ?_, fun hp hc => ?_, fun hq hc => ?_⟩
  · rw [valid_front hp, hq]
  · rwa [valid_front hp] at hc
  · rw [validB_fresh p (valid_fresh hq), Bool.and_eq_true] at hc
    exact hc.1
/-- The next byte that can be a first one is near. -/
theorem near_start {rs : List Int} (h : ∀ r ∈ rs, goodB r = true) (i j : Nat) (hij : i ≤ j) (hj : j ≤ (text rs).length) (hc : ∀ k, i ≤ k → k < j → ((text rs).getD k 0).toNat / 64 = 2) : j ≤ i + 3 := by
  induction rs generalizing i j with
  | nil => simp [text] at hj; omega
  | cons r rs ih =>
    have hr := h r (by simp)
    have hlen := enc_length r
    rw [text_cons, List.length_append] at hj
    rw [text_cons] at hc
    by_cases hi : i < (encodeRune r).length
    · by_cases hjl : j ≤ (encodeRune r).length
      · by_cases h0 : i = 0
        · by_cases hj0 : j = 0
          · omega
          · exfalso
            have := hc 0 (by omega) (by omega)
            have h1 := enc_head hr
            apply h1
            rw [List.getD, List.getElem?_append_left (by omega)] at this
            exact this
        · omega
      · by_cases h0 : (text rs).length = 0
        · omega
        · exfalso
          have := hc (encodeRune r).length (by omega) (by omega)
          cases rs with
          | nil => simp [text] at h0
          | cons s ss =>
            have h1 := enc_head (h s (by simp))
            rw [List.getD, List.getElem?_append_right (Nat.le_refl _), Nat.sub_self, text_cons, List.getElem?_append_left (List.length_pos_iff.2 (enc_ne s))] at this
            exact h1 this
    · have := ih (fun x hx => h x (by simp [hx])) (i - (encodeRune r).length) (j - (encodeRune r).length) (by omega) (by omega) (fun k h1 h2 => by
        have := hc (k + (encodeRune r).length) (by omega) (by omega)
        rw [List.getD, List.getElem?_append_right (by omega), Nat.add_sub_cancel] at this
        exact this)
      omega
end Go.Proofs.YtdhofjhmbdeibaaDoor
