/- Contracts: RuneCount and RuneCountInString, by unicode/utf8, by spec and through impl: how many steps there are. -/
import Derived.Test.YtdhofjhmbdeibaaDoorShelf
import Derived.Test.YtdhofjhmbdeibaaDoorOwn
import Derived.Test.YtdhofjhmbdeibaaDoorPlainC
import Derived.Test.YtdhofjhmbdeibaaDoorSteps
namespace Go.Proofs.YtdhofjhmbdeibaaDoor
open Go.RowKit Go.Lib
set_option linter.unusedVariables false
theorem cnt_eq (s : ByteArray) : Lib.runeCount s = cnt s.data.toList := by
  have h : ∀ (f i : Nat), s.size ≤ i + f → Lib.runeCountFrom s f i = cnt (s.data.toList.drop i) := by
    intro f
    induction f with
    | zero =>
      intro i hi
      have : s.data.toList.drop i = [] := List.drop_eq_nil_of_le (by rw [size_list]; omega)
      rw [this]
      rfl
    | succ f ih =>
      intro i hi
      unfold Lib.runeCountFrom
      by_cases hlt : i < s.size
      · have hne : s.data.toList.drop i ≠ [] := by
          intro h
          have := List.drop_eq_nil_iff.1 h
          rw [size_list] at this
          omega
        have hw := width_pos s i
        rw [if_pos hlt, ih _ (by omega)]
        unfold cnt
        rw [steps_cons _ hne, decodeL_drop, List.drop_drop, List.length_cons, Nat.add_comm]
      · have : s.data.toList.drop i = [] := List.drop_eq_nil_of_le (by rw [size_list]; omega)
        rw [if_neg hlt, this]
        rfl
  have := h s.size 0 (by omega)
  rw [List.drop_zero] at this
  exact this
/-- The bytes of a slice, as the shelf asks for them. -/
theorem By.shelf {w : World} {A : Option Addr} {n : Nat} {l : List UInt8} (h : By w A n l) (h0 : 0 < n) :
    ∃ b off, A = some ⟨b, off, none⟩ ∧ ∀ j, j < (strOf l).size → w.cell? ⟨b, off + j, none⟩ = some (.int .u8 ((strOf l).get! j).toNat) := by
  obtain ⟨b, off, e, hb, hc⟩ := h.open_ h0
  refine ⟨b, off, e, fun j hj => ?_⟩
  rw [strOf_size, h.len] at hj
  rw [hc j hj, ← getD_get!', strOf_data]
set_option maxHeartbeats 400000 in
theorem utf8_countS (s : ByteArray) (w : World) (hs : s.size ≤ 9223372036854775806) : Calls Tryd.prog 53 #[.string s] w fun e w' => e = .returned (.int .i64 (cnt s.data.toList)) ∧ Nx w w' := by
  have h : Calls Tryd.prog 53 #[.string s] w fun e w' => e = .returned (.int .i64 (Lib.runeCount s)) ∧ ∃ pos, w' = w.iter s pos := Any.utf8_RuneCountInString Tryd.lays195 s w (by omega)
  refine h.mono ?_
  rintro e w' ⟨rfl, pos, rfl⟩
  rw [cnt_eq]
  exact ⟨rfl, (Nx.refl _).iter _ _⟩
set_option maxHeartbeats 400000 in
theorem utf8_count0 (A : Option Addr) (c : Nat) (w : World) : Calls Tryd.prog 47 #[.slice A 0 c] w fun e w' => e = .returned (.int .i64 0) ∧ w = w' := by
  go_enter Tryd.func47, Tryd.ntmps47
  go_wp2_with fail
  go_loop [4] (fun i => i = .int .i64 0) (fun _ => 0)
  case atStart => rfl
  case round =>
    subst hrel
    go_wp2_with fail
    go_ret
    exact ⟨rfl, rfl⟩
theorem utf8_count (A : Option Addr) (n c : Nat) (l : List UInt8) (w : World) (hl : By w A n l) (hc : n ≤ c) (hn : n ≤ 9223372036854775806) : Calls Tryd.prog 47 #[.slice A n c] w fun e w' => e = .returned (.int .i64 (cnt l)) ∧ Nx w w' := by
  have hlen := hl.len
  by_cases h0 : n = 0
  · subst h0
    have : l = [] := List.eq_nil_of_length_eq_zero hlen
    subst this
    refine (utf8_count0 A c w).mono ?_
    rintro e w' ⟨rfl, rfl⟩
    exact ⟨rfl, Nx.refl _⟩
  · obtain ⟨b, off, rfl, hp⟩ := hl.shelf (by omega)
    have h : Calls Tryd.prog 47 #[.slice (some ⟨b, off, none⟩) (strOf l).size c] w fun e w' => e = .returned (.int .i64 (Lib.runeCount (strOf l))) ∧ (w' = w ∨ ∃ t pos, w' = w.iter t pos) :=
      Any7.utf8_RuneCount Tryd.laysB31 (strOf l) b off c w (by rw [strOf_size]; omega) hp (by rw [strOf_size]; omega)
    rw [strOf_size, hlen, cnt_eq, strOf_data] at h
    refine h.mono ?_
    rintro e w' ⟨rfl, rfl | ⟨t, pos, rfl⟩⟩
    · exact ⟨rfl, Nx.refl _⟩
    · exact ⟨rfl, (Nx.refl _).iter _ _⟩
set_option maxHeartbeats 400000 in
theorem count_any (A : Option Addr) (n c : Nat) (l : List UInt8) (w : World) (hl : By w A n l) (hc : n ≤ c) (hn : n ≤ 9223372036854775806) : Calls Tryd.prog 30 #[.slice A n c] w fun e w' => e = .returned (.int .i64 (cnt l)) ∧ Nx w w' := by
  go_enter Tryd.func30, Tryd.ntmps30
  go_wp2_with (go_at_call 47; refine (utf8_count _ _ _ l _ hl hc hn).mono ?_; rintro e w1 ⟨rfl, hn1⟩)
  go_ret
  exact ⟨rfl, hn1⟩
end Go.Proofs.YtdhofjhmbdeibaaDoor
