/- Contracts: the language's conversions, through impl: a rune to a string, runes to a string, a string to runes. -/
import Derived.Test.YteloimkpkbcahaaRows
import Derived.Test.YteloimkpkbcahaaPlain
import Derived.Test.YteloimkpkbcahaaOwn
import Derived.Laws.IdiomStrings
import Derived.Laws.Cover4
namespace Go.Proofs.Yteloimkpkbcahaa
open Go.RowKit Go.Lib
set_option linter.unusedVariables false
theorem encode_eq (r : Int) : Utf8.encode r = strOf (encodeRune r) := by
  unfold Utf8.encode strOf
  by_cases hg : goodB r = true
  · have hv : Utf8.valid r = true := by
      rw [goodB_iff] at hg
      simp only [Utf8.valid, Bool.or_eq_true, Bool.and_eq_true, decide_eq_true_eq]
      omega
    simp only [hv, if_true]
    rcases good_cases hg with h | h | h | h
    · rw [if_pos (by omega), enc_one h.1 h.2]
    · rw [if_neg (by omega), if_pos (by omega), enc_two h.1 h.2]
      rw [show (192 + r / 64).toNat = 192 + r.toNat / 64 by omega, show (128 + r % 64).toNat = 128 + r.toNat % 64 by omega]
    · rw [if_neg (by omega), if_neg (by omega), if_pos (by omega), enc_three h]
      rw [show (224 + r / 4096).toNat = 224 + r.toNat / 4096 by omega, show (128 + r / 64 % 64).toNat = 128 + r.toNat / 64 % 64 by omega, show (128 + r % 64).toNat = 128 + r.toNat % 64 by omega]
    · rw [if_neg (by omega), if_neg (by omega), if_neg (by omega), enc_four h.1 h.2]
      rw [show (240 + r / 262144).toNat = 240 + r.toNat / 262144 by omega, show (128 + r / 4096 % 64).toNat = 128 + r.toNat / 4096 % 64 by omega, show (128 + r / 64 % 64).toNat = 128 + r.toNat / 64 % 64 by omega, show (128 + r % 64).toNat = 128 + r.toNat % 64 by omega]
  · have hg' : goodB r = false := by simpa using hg
    have hv : Utf8.valid r = false := by
      rw [goodB_iff] at hg
      cases h : Utf8.valid r with
      | false => rfl
      | true =>
        simp only [Utf8.valid, Bool.or_eq_true, Bool.and_eq_true, decide_eq_true_eq] at h
        omega
    simp only [hv]
    rw [enc_bad hg', enc_three (by omega)]
    rfl
theorem append_strOf (a b : List UInt8) : strOf a ++ strOf b = strOf (a ++ b) := by
  unfold strOf
  rw [ByteArray.mk_append_mk]
theorem runesBytes_eq (zs : List Int) : runesBytes zs = strOf (text zs) := by
  have h : ∀ (zs : List Int) (a : List UInt8), zs.foldl (fun r n => r ++ Utf8.encode n) (strOf a) = strOf (a ++ text zs) := by
    intro zs
    induction zs with
    | nil => intro a; simp [text]
    | cons z zs ih =>
      intro a
      rw [List.foldl_cons, encode_eq, append_strOf, ih, text_cons, List.append_assoc]
  have := h zs []
  rw [List.nil_append] at this
  exact this
theorem runesFrom_eq (s : ByteArray) : Conv.runesFrom s s.size 0 #[] = ((runesL s.data.toList).map (Value.int .i32)).toArray := by
  have h : ∀ (f i : Nat) (acc : Array Value), s.size ≤ i + f → Conv.runesFrom s f i acc = acc ++ ((runesL (s.data.toList.drop i)).map (Value.int .i32)).toArray := by
    intro f
    induction f with
    | zero =>
      intro i acc hi
      have : s.data.toList.drop i = [] := List.drop_eq_nil_of_le (by rw [size_list]; omega)
      simp [Conv.runesFrom, this, runesL, steps_nil]
    | succ f ih =>
      intro i acc hi
      unfold Conv.runesFrom
      by_cases hlt : i < s.size
      · have hne : s.data.toList.drop i ≠ [] := by
          intro h
          have := List.drop_eq_nil_iff.1 h
          rw [size_list] at this
          omega
        have hw := width_pos s i
        rw [if_pos hlt]
        simp only
        rw [ih _ _ (by omega)]
        unfold runesL
        rw [steps_cons _ hne, decodeL_drop, List.drop_drop]
        simp
      · have : s.data.toList.drop i = [] := List.drop_eq_nil_of_le (by rw [size_list]; omega)
        rw [if_neg hlt, this]
        simp [runesL, steps_nil]
  have := h s.size 0 #[] (by omega)
  simpa using this
theorem runes_own (w : World) (zs : List Int) (cap : Nat) (hm : zs.length ≤ cap) (hc : cap ≤ maxLen) :
    Own .i32 21 w.heap.size (w.drew.alloc (.cells ((zs.map (Value.int .i32)).toArray ++ Array.replicate (cap - zs.length) (.int .i32 0)) 21)) (some ⟨w.heap.size, 0, none⟩) zs.length cap zs := by
  refine ⟨rfl, by simp, .inr ⟨w.heap.size, _, _, rfl, Nat.le_refl _, heap_alloc_new w.drew _, hm, hc, by simp; omega, ?_⟩⟩
  simp
set_option maxHeartbeats 400000 in
theorem runesOf_any (s : ByteArray) (w : World) (hs : (runesL s.data.toList).length ≤ 70368744177664) : Calls Try.prog 5 #[.string s] w (NewS .i32 21 (runesL s.data.toList) w) := by
  have h0 := run_runes_of_string (P := Try.prog) w 9 22 21 s Try.underlying9 Try.underlying22 Try.underlying21 (by rw [runesFrom_eq]; simpa using hs)
  rw [runesFrom_eq] at h0
  have hsz : ((runesL s.data.toList).map (Value.int .i32)).toArray.size = (runesL s.data.toList).length := by simp
  rw [hsz] at h0
  have hge := grownCap_ge w (runesL s.data.toList).length 0 21
  have hle := grownCap_le_maxLen w (runesL s.data.toList).length 0 21 (by simp only [maxLen]; omega)
  obtain ⟨n, hn⟩ : ∃ n, (runesL s.data.toList).length = n := ⟨_, rfl⟩
  obtain ⟨cap, hcap⟩ : ∃ cap, grownCap w (runesL s.data.toList).length 0 21 = cap := ⟨_, rfl⟩
  have hown := runes_own w (runesL s.data.toList) cap (by omega) (by omega)
  rw [hcap, hn] at h0
  rw [hn] at hown
  obtain ⟨o, ho⟩ : ∃ o, Obj.cells (((runesL s.data.toList).map (Value.int .i32)).toArray ++ Array.replicate (cap - n) (.int .i32 0)) 21 = o := ⟨_, rfl⟩
  rw [ho] at h0 hown
  have HO := Lib.hid hown
  clear hsz hge hle hcap hn ho hs hown
  go_enter Try.func5, Try.ntmps5
  go_wp2
  go_ret
  exact ⟨_, _, _, rfl, HO.out, ((Nx.refl _).drew).alloc _⟩
end Go.Proofs.Yteloimkpkbcahaa
