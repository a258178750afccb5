/- Contracts: the functions that compare two slices of numbers: they tell whether the lists are one. -/
import Derived.Test.YteloimkpkbcahaaRows
import Derived.Test.YteloimkpkbcahaaPlain
import Derived.Test.YteloimkpkbcahaaOwn
import Derived.Deep.QuietTactic
import Derived.BigQuiet
namespace Go.Proofs.Yteloimkpkbcahaa
open Go.RowKit
set_option linter.unusedVariables false
set_option maxHeartbeats 400000 in
theorem same_runes (A B : Option Addr) (n m ca cb : Nat) (x y : List Int) (w : World) (hx : Sl .i32 w A n x) (hy : Sl .i32 w B m y) (hn : n ≤ 9223372036854775807) (hm : m ≤ 9223372036854775807) :
    Calls Try.prog 7 #[.slice A n ca, .slice B m cb] w fun e w' => e = .returned (.bool (eqB x y)) ∧ Nx w w' := by
  have lx := hx.len; have ly := hy.len
  by_cases hnm : n = m
  · subst hnm
    have hne : ((n : Int) != (n : Int)) = false := by simp
    have LX := Lib.hid lx; have LY := Lib.hid ly; clear lx ly
    go_enter Try.func7, Try.ntmps7
    go_wp2
    go_loopw [5] (fun i w1 => ∃ k : Nat, k ≤ n ∧ i = .int .i64 k ∧ Hid (x.take k = y.take k) ∧ Nx w w1) (fun i _ => n - (intOf i).toNat)
    case atStart => exact ⟨0, Nat.zero_le _, rfl, by simp [Hid], Nx.refl _⟩
    case round =>
      obtain ⟨k, hk, rfl, hxy, hnx⟩ := hrel
      by_cases hlt : k < n
      · obtain ⟨b, off, u, rfl, hb, c1, hu⟩ := (hx.next hnx).at_ hlt
        obtain ⟨b', off', v, rfl, hb', c2, hv⟩ := (hy.next hnx).at_ hlt
        by_cases he : u = v
        · have hs : Hid (x.take (k + 1) = y.take (k + 1)) := take_step 0 (by rw [LX.out]; exact hlt) (by rw [LY.out]; exact hlt) hxy.out (by rw [hu.out, hv.out, he])
          subst he
          have he' : (u != u) = false := by simp
          go_wp2
          go_quiet (fail)
          go_wp2
          go_roundw
          case rel => exact ⟨k + 1, by omega, by go_num, hs, hnx.drewN _⟩
          case measure => simp [intOf]; omega
        · have he' : (u != v) = true := by simp [he]
          have hs : Hid (eqB x y = false) := eqB_ne (by intro h; rw [h, hv.out] at hu; exact he hu.out.symm)
          go_wp2
          go_quiet (fail)
          go_wp2
          go_ret
          exact ⟨ret_bool hs.out.symm, hnx.drewN _⟩
      · go_wp2
        go_ret
        obtain rfl : k = n := by omega
        have : x = y := by
          have := hxy.out
          rwa [List.take_of_length_le (by rw [LX.out]; exact Nat.le_refl _), List.take_of_length_le (by rw [LY.out]; exact Nat.le_refl _)] at this
        exact ⟨ret_bool (by rw [this, eqB_refl]), hnx⟩
  · have hne : ((n : Int) != (m : Int)) = true := by simp; omega
    have hs : Hid (eqB x y = false) := eqB_ne (by intro h; rw [h] at lx; omega)
    clear lx ly
    go_enter Try.func7, Try.ntmps7
    go_wp2
    go_ret
    exact ⟨ret_bool hs.out.symm, Nx.refl _⟩
end Go.Proofs.Yteloimkpkbcahaa
