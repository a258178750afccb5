/- The plain side of FullRune and Begins: the proper beginnings of encodings. -/
import Derived.Test.YtdhofjhmbdeibaaDoorPlainC
import Derived.Lib.DecodeN
namespace Go.Proofs.YtdhofjhmbdeibaaDoor
open Go.Lib
set_option linter.unusedVariables false
def contN (b : Nat) : Bool := decide (128 ≤ b ∧ b ≤ 191)
def second (a b : Nat) : Bool := decide ((if a = 224 then 160 else if a = 240 then 144 else 128) ≤ b ∧ b ≤ (if a = 237 then 159 else if a = 244 then 143 else 191))
/-- Some bytes, at least one, are a proper beginning of the encoding of a good rune. -/
def begB : List UInt8 → Bool
  | [a] => decide (194 ≤ a.toNat ∧ a.toNat ≤ 244)
  | [a, b] => decide (224 ≤ a.toNat ∧ a.toNat ≤ 244) && second a.toNat b.toNat
  | [a, b, c] => decide (240 ≤ a.toNat ∧ a.toNat ≤ 244) && second a.toNat b.toNat && contN c.toNat
  | _ => false
theorem beg_nil : begB [] = false := rfl
theorem beg_long (l : List UInt8) (h : 3 < l.length) : begB l = false := by
  match l, h with
  | a :: b :: c :: d :: r, _ => rfl
theorem beg_len {l : List UInt8} (h : begB l = true) : 1 ≤ l.length ∧ l.length ≤ 3 := by
  match l, h with
  | [a], _ => simp
  | [a, b], _ => simp
  | [a, b, c], _ => simp
/-- What the library's FullRune answers. -/
def fullB (l : List UInt8) : Bool :=
  if l.length = 0 then false
  else if firstT (l.getD 0 0).toNat % 8 ≤ l.length then true
  else if 1 < l.length ∧ ((l.getD 1 0).toNat < accLo (firstT (l.getD 0 0).toNat / 16) ∨ accHi (firstT (l.getD 0 0).toNat / 16) < (l.getD 1 0).toNat) then true
  else if 2 < l.length ∧ ((l.getD 2 0).toNat < 128 ∨ 191 < (l.getD 2 0).toNat) then true
  else false
theorem firstT_case (b : Nat) (h : b < 256) :
    (b < 194 ∨ 245 ≤ b) ∧ (firstT b = 240 ∨ firstT b = 241) ∨ (194 ≤ b ∧ b < 224) ∧ firstT b = 2 ∨ b = 224 ∧ firstT b = 19 ∨ (225 ≤ b ∧ b < 240 ∧ b ≠ 237) ∧ firstT b = 3 ∨ b = 237 ∧ firstT b = 35 ∨ b = 240 ∧ firstT b = 52 ∨ (241 ≤ b ∧ b < 244) ∧ firstT b = 4 ∨ b = 244 ∧ firstT b = 68 := by
  unfold firstT
  repeat' split
  all_goals omega
theorem full_eq (l : List UInt8) (hne : l ≠ []) : fullB l = !begB l := by
  match l, hne with
  | a :: r, _ =>
    have ha := a.toNat_lt
    obtain ⟨x, hx⟩ : ∃ x, firstT a.toNat = x := ⟨_, rfl⟩
    have hc := firstT_case a.toNat ha
    rw [hx] at hc
    match r with
    | [] =>
      simp only [fullB, begB, List.length_cons, List.length_nil, List.getD_cons_zero, hx]
      rcases hc with ⟨h1, h2 | h2⟩ | ⟨h1, h2⟩ | ⟨h1, h2⟩ | ⟨h1, h2⟩ | ⟨h1, h2⟩ | ⟨h1, h2⟩ | ⟨h1, h2⟩ | ⟨h1, h2⟩ <;> subst h2 <;> simp <;> omega
    | [b] =>
      simp only [fullB, begB, second, List.length_cons, List.length_nil, List.getD_cons_zero, List.getD_cons_succ, hx]
      rcases hc with ⟨h1, h2 | h2⟩ | ⟨h1, h2⟩ | ⟨h1, h2⟩ | ⟨h1, h2⟩ | ⟨h1, h2⟩ | ⟨h1, h2⟩ | ⟨h1, h2⟩ | ⟨h1, h2⟩ <;> subst h2 <;> simp [accLo, accHi] <;> (repeat' split) <;> first | omega | (simp; omega) | (exfalso; omega) | (rw [Bool.eq_iff_iff]; simp only [Bool.or_eq_true, Bool.not_eq_true', decide_eq_true_eq, decide_eq_false_iff_not]; omega)
    | [b, c] =>
      simp only [fullB, begB, second, contN, List.length_cons, List.length_nil, List.getD_cons_zero, List.getD_cons_succ, hx]
      rcases hc with ⟨h1, h2 | h2⟩ | ⟨h1, h2⟩ | ⟨h1, h2⟩ | ⟨h1, h2⟩ | ⟨h1, h2⟩ | ⟨h1, h2⟩ | ⟨h1, h2⟩ | ⟨h1, h2⟩ <;> subst h2 <;> simp [accLo, accHi] <;> (repeat' split) <;> first | omega | (simp; omega) | (exfalso; omega) | (rw [Bool.eq_iff_iff]; simp only [Bool.or_eq_true, Bool.not_eq_true', decide_eq_true_eq, decide_eq_false_iff_not]; omega)
    | b :: c :: d :: q =>
      have : begB (a :: b :: c :: d :: q) = false := rfl
      rw [this]
      simp only [fullB, List.length_cons, List.getD_cons_zero, hx]
      rw [if_neg (by omega), if_pos (by omega)]
      rfl
theorem full_nil : fullB [] = false := rfl
/-- A beginning's beginning is one. -/
theorem beg_pre {p q : List UInt8} (hp : p ≠ []) (h : begB (p ++ q) = true) : begB p = true := by
  match p, hp with
  | [a], _ =>
    match q, h with
    | [], h => simpa using h
    | [b], h => simp [begB, second] at h ⊢; omega
    | [b, c], h => simp [begB, second, contN] at h ⊢; omega
  | [a, b], _ =>
    match q, h with
    | [], h => simpa using h
    | [c], h => simp [begB, second, contN] at h ⊢; exact ⟨by omega, h.1.2⟩
  | [a, b, c], _ =>
    match q, h with
    | [], h => simpa using h
  | a :: b :: c :: d :: r, _ => simp [begB] at h
/-- Of an encoding, each proper beginning is one. -/
theorem beg_enc {r : Int} (h : goodB r = true) {p t : List UInt8} (hp : p ≠ []) (ht : t ≠ []) (he : p ++ t = encodeRune r) : begB p = true := by
  have n1 : ∀ n : Nat, n < 256 → (UInt8.ofNat n).toNat = n := fun n hn => ofNat_toNat hn
  rcases good_cases h with ⟨a, b⟩ | ⟨a, b⟩ | a | ⟨a, b⟩
  · rw [enc_one a b] at he
    have := congrArg List.length he
    have h1 := List.length_pos_iff.2 hp
    have h2 := List.length_pos_iff.2 ht
    simp at this
    omega
  · rw [enc_two a b] at he
    match p, t, hp, ht, he with
    | [x], y :: q, _, _, he =>
      simp only [List.cons_append, List.nil_append, List.cons.injEq] at he
      obtain ⟨rfl, _⟩ := he
      simp only [begB, decide_eq_true_eq]
      rw [n1 _ (by omega)]
      omega
    | x :: y :: q, z :: u, _, _, he => simp at he
  · rw [enc_three a] at he
    match p, t, hp, ht, he with
    | [x], y :: q, _, _, he =>
      simp only [List.cons_append, List.nil_append, List.cons.injEq] at he
      obtain ⟨rfl, _⟩ := he
      simp only [begB, decide_eq_true_eq]
      rw [n1 _ (by omega)]
      omega
    | [x, y], z :: q, _, _, he =>
      simp only [List.cons_append, List.nil_append, List.cons.injEq] at he
      obtain ⟨rfl, rfl, _⟩ := he
      simp only [begB, second, Bool.and_eq_true, decide_eq_true_eq]
      rw [n1 _ (by omega), n1 _ (by omega)]
      refine ⟨by omega, ?_⟩
      repeat' split
      all_goals omega
    | x :: y :: z :: q, u :: v, _, _, he => simp at he
  · rw [enc_four a b] at he
    match p, t, hp, ht, he with
    | [x], y :: q, _, _, he =>
      simp only [List.cons_append, List.nil_append, List.cons.injEq] at he
      obtain ⟨rfl, _⟩ := he
      simp only [begB, decide_eq_true_eq]
      rw [n1 _ (by omega)]
      omega
    | [x, y], z :: q, _, _, he =>
      simp only [List.cons_append, List.nil_append, List.cons.injEq] at he
      obtain ⟨rfl, rfl, _⟩ := he
      simp only [begB, second, Bool.and_eq_true, decide_eq_true_eq]
      rw [n1 _ (by omega), n1 _ (by omega)]
      refine ⟨by omega, ?_⟩
      repeat' split
      all_goals omega
    | [x, y, z], u :: q, _, _, he =>
      simp only [List.cons_append, List.nil_append, List.cons.injEq] at he
      obtain ⟨rfl, rfl, rfl, _⟩ := he
      simp only [begB, second, contN, Bool.and_eq_true, decide_eq_true_eq]
      rw [n1 _ (by omega), n1 _ (by omega), n1 _ (by omega)]
      refine ⟨⟨by omega, ?_⟩, by omega⟩
      repeat' split
      all_goals omega
    | x :: y :: z :: u :: q, v :: s, _, _, he => simp at he
/-- Where nothing waits, further bytes change nothing. -/
theorem dec_final {p : List UInt8} (hp : p ≠ []) (h : begB p = false) (q : List UInt8) : decodeL (p ++ q) = decodeL p := by
  rcases dec_app p q hp with e | ⟨x, t, q', hx, ht, he, _⟩
  · exact e
  · rw [beg_enc hx hp ht he] at h
    cases h
/-- A beginning is decoded byte by byte. -/
theorem beg_bad {p : List UInt8} (h : begB p = true) : decodeL p = (65533, 1) := by
  rw [decodeL_N]
  match p, h with
  | [a], h =>
    simp only [begB, decide_eq_true_eq] at h
    simp only [decodeN, List.length_cons, List.length_nil, List.getD_cons_zero]
    repeat' split
    all_goals first | omega | rfl
  | [a, b], h =>
    simp only [begB, Bool.and_eq_true, decide_eq_true_eq] at h
    simp only [decodeN, List.length_cons, List.length_nil, List.getD_cons_zero]
    repeat' split
    all_goals first | omega | rfl
  | [a, b, c], h =>
    simp only [begB, Bool.and_eq_true, decide_eq_true_eq] at h
    simp only [decodeN, List.length_cons, List.length_nil, List.getD_cons_zero]
    repeat' split
    all_goals first | omega | rfl
/-! ### spec.Begins, as it reckons -/
def formedB (l : List UInt8) (m : Nat) : Bool :=
  decide ((if m = 2 then 192 else if m = 3 then 224 else 240) ≤ (l.getD 0 0).toNat ∧ (l.getD 0 0).toNat < (if m = 2 then 224 else if m = 3 then 240 else 248)) && (l.drop 1).all (fun b => contN b.toNat)
def fill (l : List UInt8) (m : Nat) (b : UInt8) : List UInt8 := l ++ List.replicate (m - l.length) b
def lowZ (m : Nat) : Int := if m = 2 then 128 else if m = 3 then 2048 else 65536
def highZ (m : Nat) : Int := if m = 2 then 2047 else if m = 3 then 65535 else 1114111
def clampLo (m : Nat) (x : Int) : Int := if x < lowZ m then lowZ m else x
def clampHi (m : Nat) (x : Int) : Int := if highZ m < x then highZ m else x
def roomB (l : List UInt8) (m : Nat) : Bool :=
  decide (clampLo m (bitsZ (fill l m 128)) ≤ clampHi m (bitsZ (fill l m 191))) && !(surB (clampLo m (bitsZ (fill l m 128))) && surB (clampHi m (bitsZ (fill l m 191))))
def begAt (l : List UInt8) (m : Nat) : Bool := decide (1 ≤ l.length ∧ l.length < m) && formedB l m && roomB l m
theorem bits_two (a b : UInt8) : bitsZ [a, b] = 64 * ((a.toNat : Int) % 32) + (b.toNat : Int) % 64 := by simp [bitsZ, bitsTo, bits0]
theorem bits_three (a b c : UInt8) : bitsZ [a, b, c] = 64 * (64 * ((a.toNat : Int) % 16) + (b.toNat : Int) % 64) + (c.toNat : Int) % 64 := by simp [bitsZ, bitsTo, bits0]
theorem bits_four (a b c d : UInt8) : bitsZ [a, b, c, d] = 64 * (64 * (64 * ((a.toNat : Int) % 8) + (b.toNat : Int) % 64) + (c.toNat : Int) % 64) + (d.toNat : Int) % 64 := by simp [bitsZ, bitsTo, bits0]
theorem u128 : ((128 : UInt8).toNat : Int) = 128 := by decide
theorem u191 : ((191 : UInt8).toNat : Int) = 191 := by decide
theorem room_iff (l : List UInt8) (m : Nat) : roomB l m = true ↔ clampLo m (bitsZ (fill l m 128)) ≤ clampHi m (bitsZ (fill l m 191)) ∧ ¬ ((55296 ≤ clampLo m (bitsZ (fill l m 128)) ∧ clampLo m (bitsZ (fill l m 128)) ≤ 57343) ∧ (55296 ≤ clampHi m (bitsZ (fill l m 191)) ∧ clampHi m (bitsZ (fill l m 191)) ≤ 57343)) := by
  unfold roomB
  rw [Bool.and_eq_true, decide_eq_true_eq, Bool.not_eq_true', Bool.and_eq_false_iff]
  simp only [← Bool.not_eq_true, surB_iff]
  refine and_congr Iff.rfl ?_
  omega
theorem begB_at (l : List UInt8) : begB l = (begAt l 2 || begAt l 3 || begAt l 4) := by
  rw [Bool.eq_iff_iff]
  unfold begAt
  simp only [Bool.or_eq_true, Bool.and_eq_true, decide_eq_true_eq, room_iff, clampLo, clampHi, lowZ, highZ]
  match l with
  | [] => simp [begB]
  | [a] =>
    have ha := a.toNat_lt
    have f2 : ∀ b, fill [a] 2 b = [a, b] := fun b => rfl
    have f3 : ∀ b, fill [a] 3 b = [a, b, b] := fun b => rfl
    have f4 : ∀ b, fill [a] 4 b = [a, b, b, b] := fun b => rfl
    simp only [begB, formedB, f2, f3, f4, bits_two, bits_three, bits_four, u128, u191, List.getD_cons_zero, List.drop_succ_cons, List.drop_zero, List.all_nil, Bool.and_true, decide_eq_true_eq, List.length_cons, List.length_nil]
    simp only [show (3 : Nat) ≠ 2 from by decide, show (4 : Nat) ≠ 2 from by decide, show (4 : Nat) ≠ 3 from by decide, if_true, if_false]
    constructor
    · intro h
      by_cases h1 : a.toNat < 224
      · refine Or.inl (Or.inl ⟨⟨by omega, by omega⟩, ?_⟩)
        repeat' split
        all_goals omega
      · by_cases h2 : a.toNat < 240
        · refine Or.inl (Or.inr ⟨⟨by omega, by omega⟩, ?_⟩)
          repeat' split
          all_goals omega
        · refine Or.inr ⟨⟨by omega, by omega⟩, ?_⟩
          repeat' split
          all_goals omega
    · rintro ((⟨⟨_, h1⟩, h2⟩ | ⟨⟨_, h1⟩, h2⟩) | ⟨⟨_, h1⟩, h2⟩)
      all_goals repeat' split at h2
      all_goals omega
  | [a, b] =>
    have ha := a.toNat_lt
    have hb := b.toNat_lt
    have f3 : ∀ x, fill [a, b] 3 x = [a, b, x] := fun x => rfl
    have f4 : ∀ x, fill [a, b] 4 x = [a, b, x, x] := fun x => rfl
    simp only [begB, second, contN, formedB, f3, f4, bits_three, bits_four, u128, u191, List.getD_cons_zero, List.drop_succ_cons, List.drop_zero, List.all_nil, List.all_cons, Bool.and_true, Bool.and_eq_true, decide_eq_true_eq, List.length_cons, List.length_nil]
    simp only [show (3 : Nat) ≠ 2 from by decide, show (4 : Nat) ≠ 2 from by decide, show (4 : Nat) ≠ 3 from by decide, if_true, if_false]
    constructor
    · rintro ⟨h, hs⟩
      by_cases h2 : a.toNat < 240
      · refine Or.inl (Or.inr ⟨⟨by omega, ⟨by omega, ?_⟩⟩, ?_⟩)
        · repeat' split at hs
          all_goals omega
        · repeat' split at hs
          all_goals repeat' split
          all_goals omega
      · refine Or.inr ⟨⟨by omega, ⟨by omega, ?_⟩⟩, ?_⟩
        · repeat' split at hs
          all_goals omega
        · repeat' split at hs
          all_goals repeat' split
          all_goals omega
    · rintro ((⟨⟨h0, _⟩, _⟩ | ⟨⟨_, h1, h1'⟩, h2⟩) | ⟨⟨_, h1, h1'⟩, h2⟩)
      · omega
      · refine ⟨by omega, ?_⟩
        repeat' split at h2
        all_goals repeat' split
        all_goals omega
      · repeat' split at h2
        all_goals refine ⟨by omega, ?_⟩
        all_goals repeat' split
        all_goals omega
  | [a, b, c] =>
    have ha := a.toNat_lt
    have hb := b.toNat_lt
    have hc := c.toNat_lt
    have f4 : ∀ x, fill [a, b, c] 4 x = [a, b, c, x] := fun x => rfl
    simp only [begB, second, contN, formedB, f4, bits_four, u128, u191, List.getD_cons_zero, List.drop_succ_cons, List.drop_zero, List.all_nil, List.all_cons, Bool.and_true, Bool.and_eq_true, decide_eq_true_eq, List.length_cons, List.length_nil]
    simp only [show (3 : Nat) ≠ 2 from by decide, show (4 : Nat) ≠ 2 from by decide, show (4 : Nat) ≠ 3 from by decide, if_true, if_false]
    constructor
    · rintro ⟨⟨h, hs⟩, hcc⟩
      refine Or.inr ⟨⟨by omega, ⟨by omega, ?_, hcc⟩⟩, ?_⟩
      · repeat' split at hs
        all_goals omega
      · repeat' split at hs
        all_goals repeat' split
        all_goals omega
    · rintro ((⟨⟨h0, _⟩, _⟩ | ⟨⟨h0, _⟩, _⟩) | ⟨⟨_, h1, h1', h1''⟩, h2⟩)
      · omega
      · omega
      · repeat' split at h2
        all_goals refine ⟨⟨by omega, ?_⟩, h1''⟩
        all_goals repeat' split
        all_goals omega
  | a :: b :: c :: d :: r =>
    simp only [begB, List.length_cons]
    constructor
    · intro h; cases h
    · rintro ((⟨⟨h0, _⟩, _⟩ | ⟨⟨h0, _⟩, _⟩) | ⟨⟨h0, _⟩, _⟩) <;> omega
end Go.Proofs.YtdhofjhmbdeibaaDoor
