/- Contracts: the laws' own marks: they are written into a slice of the call's own, and read back. -/
import Derived.Test.YtliaaandgeogjaaRows
import Derived.Test.YtliaaandgeogjaaOwn
import Derived.Deep.QuietTactic
import Derived.BigQuiet
namespace Go.Proofs.Ytliaaandgeogjaa
open Go.RowKit
set_option linter.unusedVariables false
/-- The marks from k on. -/
def marks (k n : Nat) : List Int := (List.range n).map fun (j : Nat) => (k : Int) + (j : Int)
theorem marks_length (k n : Nat) : (marks k n).length = n := by simp [marks]
theorem marks_getD (k n j : Nat) (h : j < n) : (marks k n).getD j 0 = ((k : Int) + (j : Int)) := by
  simp [marks, List.getD, h]
theorem marks_step (k n j : Nat) (zs : List Int) (hz : zs.length = n) (hj : j < n) :
    (marks k j ++ zs.drop j).set j ((k : Int) + (j : Int)) = marks k (j + 1) ++ zs.drop (j + 1) := by
  have h1 := marks_length k j
  rw [List.set_append_right _ _ (by omega), h1, Nat.sub_self, List.drop_eq_getElem_cons (by omega), List.set_cons_zero]
  have : marks k (j + 1) = marks k j ++ [((k : Int) + (j : Int))] := by
    unfold marks
    rw [List.range_succ, List.map_append]
    rfl
  rw [this, List.append_assoc]
  rfl
theorem Own.mset {k : IntKind} {t : TypeId} {B : Nat} {w : World} {g n cap : Nat} {zs : List Int} (h : Own k t B w (some ⟨g, 0, none⟩) n cap zs) (j : Nat) (z : Int) :
    Own k t B (w.setCell ⟨g, j, none⟩ (.int k z)) (some ⟨g, 0, none⟩) n cap (zs.set j z) ∧ w.grownBy (w.setCell ⟨g, j, none⟩ (.int k z)) (some g) := by
  obtain ⟨h1, h2⟩ := h.2.stored j (.int k z)
  refine ⟨⟨by rw [List.length_set]; exact h.1, ?_⟩, h2⟩
  rw [List.map_set]
  exact h1
theorem Own.mfree {k : IntKind} {t : TypeId} {B : Nat} {w : World} {g n cap : Nat} {zs : List Int} (h : Own k t B w (some ⟨g, 0, none⟩) n cap zs) (j : Nat) : w.frozen? ⟨g, j, none⟩ = false := h.2.frozenAt j
theorem grown_trans {a b c : World} {row : Option Nat} (h : a.grownBy b row) (k : b.grownBy c row) : a.grownBy c row :=
  ⟨k.os.trans h.os, k.tape.trans h.tape, k.output.trans h.output, Nat.le_trans h.size k.size, fun i hi hr => (k.block i (Nat.lt_of_lt_of_le hi h.size) hr).trans (h.block i hi hr)⟩
theorem grown_refl (w : World) (row : Option Nat) : w.grownBy w row := ⟨rfl, rfl, rfl, Nat.le_refl _, fun _ _ _ => rfl⟩
theorem Own.zero {k : IntKind} {t : TypeId} {B : Nat} {w : World} {A : Option Addr} {n cap : Nat} {zs : List Int} (h : Own k t B w A n cap zs) (h0 : 0 < n) : ∃ g, A = some ⟨g, 0, none⟩ := by
  rcases h.2.2 with ⟨_, h2⟩ | ⟨g, c, cur, h1, _⟩
  · omega
  · injection h1 with h1
    exact ⟨g, h1⟩
set_option maxHeartbeats 1000000 in
theorem mark_i64 (B : Nat) (A : Option Addr) (n c : Nat) (zs : List Int) (k0 : Nat) (w : World) (ho : Own .i64 2 B w A n c zs) (hk : k0 + n ≤ 2147483647) :
    Calls Try.prog 9 #[.slice A n c, .int .i64 (k0 : Int)] w fun e w' => e = .returned (.int .i64 ((k0 + n : Nat) : Int)) ∧ Own .i64 2 B w' A n c (marks k0 n) ∧ w.grownBy w' (blk A) := by
  have LX := Lib.hid ho.len
  go_enter Try.func9, Try.ntmps9
  go_wp2
  go_loopw [1, 5] (fun kk i wr => ∃ k : Nat, k ≤ n ∧ kk = .int .i64 ((k0 : Int) + (k : Int)) ∧ i = .int .i64 k ∧ Own .i64 2 B wr A n c (marks k0 k ++ zs.drop k) ∧ w.grownBy wr (blk A)) (fun _ i _ => n - (intOf i).toNat)
  case atStart => exact ⟨0, Nat.zero_le _, by simp, rfl, by simpa [marks] using ho, grown_refl _ _⟩
  case round =>
    obtain ⟨k, hkn, rfl, rfl, hown, hgr⟩ := hrel
    by_cases hlt : k < n
    · obtain ⟨g, rfl⟩ := hown.zero (by omega)
      obtain ⟨b', off', v, hA, hb', c2, _⟩ := hown.sl.at_ hlt
      have hab : g = b' ∧ 0 = off' := by injection hA with hA; injection hA with h1 h2; exact ⟨h1, h2⟩
      obtain ⟨rfl, rfl⟩ := hab
      clear hA
      have hfz := hown.mfree k
      rw [Nat.zero_add] at c2
      obtain ⟨hset, hgr2⟩ := hown.mset k ((k0 : Int) + (k : Int))
      rw [marks_step k0 n k zs LX.out.symm hlt] at hset
      have hg2 := grown_trans hgr hgr2
      clear hgr hgr2 hown ho
      go_wp2
      go_roundw
      case rel => exact ⟨k + 1, by omega, by go_num, by go_num, hset, hg2⟩
      case measure => simp [intOf]; omega
    · obtain rfl : k = n := by omega
      have hfin : Own .i64 2 B wr A k c (marks k0 k) := by
        rw [List.drop_eq_nil_of_le (by rw [← LX.out]; exact Nat.le_refl _), List.append_nil] at hown
        exact hown
      clear hown ho
      go_wp2
      go_ret
      exact ⟨by go_num, hfin, hgr⟩
set_option maxHeartbeats 1000000 in
theorem mark_i32 (B : Nat) (A : Option Addr) (n c : Nat) (zs : List Int) (k0 : Nat) (w : World) (ho : Own .i32 21 B w A n c zs) (hk : k0 + n ≤ 2147483647) :
    Calls Try.prog 10 #[.slice A n c, .int .i64 (k0 : Int)] w fun e w' => e = .returned (.int .i64 ((k0 + n : Nat) : Int)) ∧ Own .i32 21 B w' A n c (marks k0 n) ∧ w.grownBy w' (blk A) := by
  have LX := Lib.hid ho.len
  go_enter Try.func10, Try.ntmps10
  go_wp2
  go_loopw [1, 5] (fun kk i wr => ∃ k : Nat, k ≤ n ∧ kk = .int .i64 ((k0 : Int) + (k : Int)) ∧ i = .int .i64 k ∧ Own .i32 21 B wr A n c (marks k0 k ++ zs.drop k) ∧ w.grownBy wr (blk A)) (fun _ i _ => n - (intOf i).toNat)
  case atStart => exact ⟨0, Nat.zero_le _, by simp, rfl, by simpa [marks] using ho, grown_refl _ _⟩
  case round =>
    obtain ⟨k, hkn, rfl, rfl, hown, hgr⟩ := hrel
    by_cases hlt : k < n
    · obtain ⟨g, rfl⟩ := hown.zero (by omega)
      obtain ⟨b', off', v, hA, hb', c2, _⟩ := hown.sl.at_ hlt
      have hab : g = b' ∧ 0 = off' := by injection hA with hA; injection hA with h1 h2; exact ⟨h1, h2⟩
      obtain ⟨rfl, rfl⟩ := hab
      clear hA
      have hfz := hown.mfree k
      rw [Nat.zero_add] at c2
      obtain ⟨hset, hgr2⟩ := hown.mset k ((k0 : Int) + (k : Int))
      rw [marks_step k0 n k zs LX.out.symm hlt] at hset
      have hg2 := grown_trans hgr hgr2
      clear hgr hgr2 hown ho
      go_wp2
      go_roundw
      case rel => exact ⟨k + 1, by omega, by go_num, by go_num, hset, hg2⟩
      case measure => simp [intOf]; omega
    · obtain rfl : k = n := by omega
      have hfin : Own .i32 21 B wr A k c (marks k0 k) := by
        rw [List.drop_eq_nil_of_le (by rw [← LX.out]; exact Nat.le_refl _), List.append_nil] at hown
        exact hown
      clear hown ho
      go_wp2
      go_ret
      exact ⟨by go_num, hfin, hgr⟩
set_option maxHeartbeats 1000000 in
theorem held_i64 (A : Option Addr) (n c : Nat) (k0 : Nat) (w : World) (hx : Sl .i64 w A n (marks k0 n)) (hk : k0 + n ≤ 2147483647) :
    Calls Try.prog 11 #[.slice A n c, .int .i64 (k0 : Int)] w fun e w' => e = .returned (.int .i64 ((k0 + n : Nat) : Int)) ∧ Nx w w' := by
  go_enter Try.func11, Try.ntmps11
  go_wp2
  go_loopw [1, 5] (fun kk i wr => ∃ k : Nat, k ≤ n ∧ kk = .int .i64 ((k0 : Int) + (k : Int)) ∧ i = .int .i64 k ∧ Nx w wr) (fun _ i _ => n - (intOf i).toNat)
  case atStart => exact ⟨0, Nat.zero_le _, by simp, rfl, Nx.refl _⟩
  case round =>
    obtain ⟨k, hkn, rfl, rfl, hnx⟩ := hrel
    by_cases hlt : k < n
    · obtain ⟨b, off, u, rfl, hb, c1, hu⟩ := (hx.next hnx).at_ hlt
      have hu2 : u = (k0 : Int) + (k : Int) := by rw [← hu.out, marks_getD _ _ _ hlt]
      subst hu2
      have hne : ((k0 : Int) + (k : Int) != (k0 : Int) + (k : Int)) = false := by simp
      clear hu
      go_wp2
      go_roundw
      case rel => exact ⟨k + 1, by omega, by go_num, by go_num, hnx⟩
      case measure => simp [intOf]; omega
    · obtain rfl : k = n := by omega
      go_wp2
      go_ret
      exact ⟨by go_num, hnx⟩
set_option maxHeartbeats 1000000 in
theorem held_i32 (A : Option Addr) (n c : Nat) (k0 : Nat) (w : World) (hx : Sl .i32 w A n (marks k0 n)) (hk : k0 + n ≤ 2147483647) :
    Calls Try.prog 12 #[.slice A n c, .int .i64 (k0 : Int)] w fun e w' => e = .returned (.int .i64 ((k0 + n : Nat) : Int)) ∧ Nx w w' := by
  go_enter Try.func12, Try.ntmps12
  go_wp2
  go_loopw [1, 5] (fun kk i wr => ∃ k : Nat, k ≤ n ∧ kk = .int .i64 ((k0 : Int) + (k : Int)) ∧ i = .int .i64 k ∧ Nx w wr) (fun _ i _ => n - (intOf i).toNat)
  case atStart => exact ⟨0, Nat.zero_le _, by simp, rfl, Nx.refl _⟩
  case round =>
    obtain ⟨k, hkn, rfl, rfl, hnx⟩ := hrel
    by_cases hlt : k < n
    · obtain ⟨b, off, u, rfl, hb, c1, hu⟩ := (hx.next hnx).at_ hlt
      have hu2 : u = (k0 : Int) + (k : Int) := by rw [← hu.out, marks_getD _ _ _ hlt]
      subst hu2
      have hne : ((k0 : Int) + (k : Int) != (k0 : Int) + (k : Int)) = false := by simp
      clear hu
      go_wp2
      go_roundw
      case rel => exact ⟨k + 1, by omega, by go_num, by go_num, hnx⟩
      case measure => simp [intOf]; omega
    · obtain rfl : k = n := by omega
      go_wp2
      go_ret
      exact ⟨by go_num, hnx⟩
end Go.Proofs.Ytliaaandgeogjaa
