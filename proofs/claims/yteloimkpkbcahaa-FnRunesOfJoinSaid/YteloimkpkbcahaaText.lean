/- Contract: spec.Text: the encodings of all runes, one behind the other. -/
import Derived.Test.YteloimkpkbcahaaRows
import Derived.Test.YteloimkpkbcahaaGood
import Derived.Test.YteloimkpkbcahaaEncoding
import Derived.Deep.DeepMust
namespace Go.Proofs.Yteloimkpkbcahaa
open Go.RowKit Go.Lib
set_option linter.unusedVariables false
theorem byte_info : (Try.prog.info? 5).map (fun i => (i.zero, i.size, i.bytes)) = some (some (.int .u8 0), 1, 1) := by kernel_rfl
theorem text_snoc (zs : List Int) (k : Nat) (hk : k < zs.length) : text (zs.take (k + 1)) = text (zs.take k) ++ encodeRune (zs.getD k 0) := by
  rw [List.take_succ_eq_append_getElem hk, text_append]
  simp [text, List.getD, List.getElem?_eq_getElem hk]
theorem text_take_le (zs : List Int) (k : Nat) : (text (zs.take k)).length ≤ 4 * k := by
  have h1 := (text_length (zs.take k)).2
  have h2 : (zs.take k).length ≤ k := List.length_take_le ..
  omega
set_option maxHeartbeats 1000000 in
theorem text_any (A : Option Addr) (n c : Nat) (zs : List Int) (w : World) (hx : Sl .i32 w A n zs) (hn : n ≤ 35184372088832) :
    Calls Try.prog 6 #[.slice A n c] w fun e w' => e = .returned (.string (strOf (text zs))) ∧ Nx w w' := by
  obtain ⟨i0, hi0, hz0, hz1, hz2⟩ := info_parts byte_info
  have LX := Lib.hid hx.len
  go_enter Try.func6, Try.ntmps6
  go_wp2
  go_loopw [3, 4] (fun v i wr => ∃ (k m cap : Nat) (A' : Option Addr), k ≤ n ∧ i = .int .i64 k ∧ v = .slice A' m cap ∧ Own .u8 5 w.heap.size wr A' m cap (nums (text (zs.take k))) ∧ Nx w wr) (fun _ i _ => n - (intOf i).toNat)
  case atStart => exact ⟨0, 0, 0, _, Nat.zero_le _, rfl, rfl, Own.new _ _ _ _ (Nat.le_refl _) [] _ 0 rfl rfl (by simp [maxLen]), (Nx.refl _).alloc _⟩
  case round =>
    obtain ⟨k, m, cap, A', hk, rfl, rfl, hown, hnx⟩ := hrel
    by_cases hlt : k < n
    · obtain ⟨b, off, u, rfl, hb, c1, hu⟩ := (hx.next hnx).at_ hlt
      have hm : m ≤ 4 * k := by have h1 := hown.len; rw [nums_length] at h1; have h2 := text_take_le zs k; omega
      have HS : Hid (text (zs.take (k + 1)) = text (zs.take k) ++ encodeRune u) := by have := text_snoc zs k (by rw [LX.out]; exact hlt); rwa [hu.out] at this
      have hel := enc_length u
      by_cases hg : goodB u = true
      · go_wp2_with (first | (go_at_call 4; refine (good_any _ _).mono ?_; rintro e w' ⟨rfl, rfl⟩) | (go_at_call 9; refine (encoding_any _ _ hg).mono ?_; rintro e w2 ⟨A2, n2, c2, rfl, hown2, hnx2⟩; have hn2 : n2 ≤ 4 := by (have := hown2.len; rw [nums_length] at this; omega)) | (at_builtin; go_must (refine wpList_append_sl _ rfl (.tmp 20) (.tmp 22) _ rfl w.heap.size 5 i0 _ 1 Try.underlying28 hi0 hz0 hz1 hz2 rfl A' m cap _ rfl (hown.next hnx2) A2 n2 c2 _ rfl hown2.sl (by simp only [maxLen]; omega) (by omega) (hnx.trans hnx2).size ?_); intro A3 n3 c3 w3 hown3 hg3 hat3; have hnx3 := (hnx.trans hnx2).app (hown.next hnx2) hg3; clear hat3 hg3 hown2 hnx2 hown hnx c1))
        go_roundw
        case rel => exact ⟨k + 1, n3, c3, A3, by omega, by go_num, rfl, by rw [HS.out, nums_append]; exact hown3, hnx3⟩
        case measure => simp [intOf]; omega
      · have hg' : goodB u = false := by simpa using hg
        rw [enc_bad hg'] at HS hel
        clear hg
        have hg65 : goodB 65533 = true := by decide
        go_wp2_with (first | (go_at_call 4; refine (good_any _ _).mono ?_; rintro e w' ⟨rfl, rfl⟩) | (go_at_call 9; refine (encoding_any _ _ hg65).mono ?_; rintro e w2 ⟨A2, n2, c2, rfl, hown2, hnx2⟩; have hn2 : n2 ≤ 4 := by (have := hown2.len; rw [nums_length] at this; omega)) | (at_builtin; go_must (refine wpList_append_sl _ rfl (.tmp 20) (.tmp 22) _ rfl w.heap.size 5 i0 _ 1 Try.underlying28 hi0 hz0 hz1 hz2 rfl A' m cap _ rfl (hown.next hnx2) A2 n2 c2 _ rfl hown2.sl (by simp only [maxLen]; omega) (by omega) (hnx.trans hnx2).size ?_); intro A3 n3 c3 w3 hown3 hg3 hat3; have hnx3 := (hnx.trans hnx2).app (hown.next hnx2) hg3; clear hat3 hg3 hown2 hnx2 hown hnx c1))
        go_roundw
        case rel => exact ⟨k + 1, n3, c3, A3, by omega, by go_num, rfl, by rw [HS.out, nums_append]; exact hown3, hnx3⟩
        case measure => simp [intOf]; omega
    · have hs := fun W h => run_bytes_str (P := Try.prog) 28 9 5 Try.underlying28 Try.underlying5 Try.underlying9 W A' m cap (text (zs.take k)) h
      have hs' := hs wr hown.sl
      clear hs
      go_wp2
      go_ret
      obtain rfl : k = n := by omega
      rw [List.take_of_length_le (by rw [LX.out]; exact Nat.le_refl _)]
      exact ⟨rfl, hnx⟩
end Go.Proofs.Yteloimkpkbcahaa
