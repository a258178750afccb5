/- Contracts: RangeString, by the language through impl and by spec: the places and the runes of the steps. -/
import Derived.Test.YtliaaandgeogjaaRows
import Derived.Test.YtliaaandgeogjaaPlainB
import Derived.Test.YtliaaandgeogjaaOwn
import Derived.Test.YtliaaandgeogjaaSteps
import Derived.Lib.OthersKept
import Derived.Deep.DeepMust
namespace Go.Proofs.Ytliaaandgeogjaa
open Go.RowKit Go.Lib
set_option linter.unusedVariables false
theorem i64_row : (Try.prog.info? 2).map (fun i => (i.zero, i.size, i.bytes)) = some (some (.int .i64 0), 1, 8) := by kernel_rfl
theorem i32_row : (Try.prog.info? 21).map (fun i => (i.zero, i.size, i.bytes)) = some (some (.int .i32 0), 1, 4) := by kernel_rfl
/-- Two new slices: the places and the runes. -/
def RangePost (l : List UInt8) (w : World) (e : Ending) (w' : World) : Prop :=
  ∃ A1 n1 c1 A2 n2 c2, e = .returned (.tuple #[.slice A1 n1 c1, .slice A2 n2 c2]) ∧ Own .i64 2 w.heap.size w' A1 n1 c1 (placesL l) ∧ Own .i32 21 w.heap.size w' A2 n2 c2 (runesL l) ∧ Apart A1 A2 ∧ Nx w w'
theorem Own.iterAt {k : IntKind} {t : TypeId} {B : Nat} {w : World} {A : Option Addr} {n cap : Nat} {zs : List Int} (h : Own k t B w A n cap zs) {g : Nat} {s : ByteArray} {p : Nat} (hg : w.heap[g]? = some (.stringIter s p)) (p' : Nat) : Own k t B (w.iterAt g s p') A n cap zs := by
  refine ⟨h.1, h.2.1, ?_⟩
  rcases h.2.2 with h2 | ⟨q, c, cur, h1, h2, h3, r⟩
  · exact .inl h2
  · refine .inr ⟨q, c, cur, h1, h2, ?_, r⟩
    rw [iterAt_other]
    · exact h3
    · intro e
      rw [e, hg] at h3
      cases h3
theorem Nx.iterAt {a w : World} (h : Nx a w) {g : Nat} (hg : a.heap.size ≤ g) (s : ByteArray) (p : Nat) : Nx a (w.iterAt g s p) := below_iterAt h hg s p
theorem iter_kept {k : IntKind} {t : TypeId} {B : Nat} {w w' : World} {A : Option Addr} {n cap : Nat} {zs : List Int} {g : Nat} {s : ByteArray} {p : Nat} (hi : w.heap[g]? = some (.stringIter s p)) (ho : Own k t B w A n cap zs) (hg : w.grownBy w' (blk A)) : w'.heap[g]? = some (.stringIter s p) := by
  have hlt : g < w.heap.size := (Array.getElem?_eq_some_iff.1 hi).1
  rw [hg.block g hlt, hi]
  intro e
  rcases ho.2.2 with ⟨h1, _⟩ | ⟨q, c, cur, h1, _, h3, _⟩
  · injection h1 with h1
    rw [h1] at e
    cases e
  · injection h1 with h1
    rw [h1] at e
    have : g = q := by simpa [blk] using e
    subst this
    rw [hi] at h3
    cases h3
theorem iter_alloc {w : World} {g : Nat} {s : ByteArray} {p : Nat} (hi : w.heap[g]? = some (.stringIter s p)) (o : Obj) : (w.alloc o).heap[g]? = some (.stringIter s p) :=
  (Below.heap_alloc w o g (Array.getElem?_eq_some_iff.1 hi).1).trans hi
/-- What the loop holds. -/
structure RangeRel (s : ByteArray) (w wr : World) (i : Nat) (A1 : Option Addr) (n1 c1 : Nat) (A2 : Option Addr) (n2 c2 : Nat) : Prop where
  ps : ∃ ps, Come s.data.toList i ps ∧ Own .i64 2 w.heap.size wr A1 n1 c1 (placesGo 0 ps) ∧ Own .i32 21 w.heap.size wr A2 n2 c2 (ps.map fun p => (p.1 : Int))
  a12 : Apart A1 A2
  it : wr.heap[w.heap.size + 2]? = some (.stringIter s i)
  nx : Nx w wr
theorem iterPos_at {w : World} {g : Nat} {s : ByteArray} {p : Nat} (h : w.heap[g]? = some (.stringIter s p)) : w.iterPos g = p := by simp [World.iterPos, h]
set_option maxHeartbeats 2000000 in
theorem range_any (s : ByteArray) (w : World) (hs : s.size ≤ 17592186044416) : Calls Try.prog 6 #[.string s] w (RangePost s.data.toList w) := by
  obtain ⟨i0, hi0, hz0, hz1, hz2⟩ := info_parts i64_row
  obtain ⟨j0, hj0, hy0, hy1, hy2⟩ := info_parts i32_row
  have LX := Lib.hid (size_list s)
  go_enter Try.func6, Try.ntmps6
  go_wp2
  go_loopw [4, 5] (fun v1 v2 wr => ∃ (k : Nat) (A1 : Option Addr) (n1 c1 : Nat) (A2 : Option Addr) (n2 c2 : Nat), k ≤ s.size ∧ v1 = .slice A1 n1 c1 ∧ v2 = .slice A2 n2 c2 ∧ RangeRel s w wr k A1 n1 c1 A2 n2 c2) (fun _ _ wr => s.size - wr.iterPos (w.heap.size + 2))
  case atStart =>
    refine ⟨0, _, 0, 0, _, 0, 0, Nat.zero_le _, rfl, rfl, ⟨[], Come.start _, ?_, ?_⟩, Apart.lit (by omega), ?_, ((Nx.refl _).alloc _).alloc _ |>.iter _ _⟩
    · exact kept_alloc (kept_alloc (Own.new .i64 _ w.heap.size w (Nat.le_refl _) [] _ 0 rfl rfl (by simp [maxLen])) _) _
    · exact kept_alloc (Own.new_at .i32 _ w.heap.size (w.alloc _) _ (by simp) (by omega) [] _ 0 rfl rfl (by simp [maxLen])) _
    · have := World.iter_heap ((w.alloc (.cells #[] 2)).alloc (.cells #[] 21)) s 0
      simpa using this
  case round =>
    obtain ⟨k, A1, n1, c1, A2, n2, c2, hk, rfl, rfl, ⟨⟨ps, hcome, ho1, ho2⟩, a12, hit, hnx⟩⟩ := hrel
    have hps : ps.length ≤ k := hcome.2.2.2
    have hm1 : n1 ≤ k := by have := ho1.len; rw [placesGo_length] at this; omega
    have hm2 : n2 ≤ k := by have := ho2.len; rw [List.length_map] at this; omega
    have HC := Lib.hid hcome
    clear hcome
    have HP := Lib.hid (iterPos_at hit)
    by_cases hlt : k < s.size
    · have hnext := fun ty => run_next_any_at (P := Try.prog) wr (w.heap.size + 2) s k ty hit hlt
      obtain ⟨hcome', hd1, hd2⟩ := HC.out.step (by rw [LX.out]; exact hlt)
      rw [LX.out] at hd2
      have hdec : dec (s.data.toList.drop k) = Utf8.decode s k := by
        rw [dec_of, decodeL_drop]
        intro h
        have := List.drop_eq_nil_iff.1 h
        rw [size_list] at this
        omega
      rw [hdec] at hcome' hd1 hd2
      obtain ⟨D1, D2, hD⟩ : ∃ D1 D2, Utf8.decode s k = (D1, D2) := ⟨_, _, rfl⟩
      rw [hD] at hcome' hd1 hd2 hnext
      simp only at hcome' hd1 hd2 hnext
      have HC2 := Lib.hid hcome'
      have hD1 : (D1 : Int) ≤ 1114111 := by have := rune_le s k; rw [hD] at this; exact Int.ofNat_le.2 this
      clear hcome' hdec hD
      have TP : Hid (total ps = k) := HC.out.2.1
      have p1 := ho1.iterAt hit (k + D2)
      have p2 := ho2.iterAt hit (k + D2)
      have hx1 : Nx w (wr.iterAt (w.heap.size + 2) s (k + D2)) := hnx.iterAt (by omega) s _
      have hi1 := iterAt_heap wr (w.heap.size + 2) s k (k + D2) hit
      have HI1 := Lib.hid hi1
      have HIT := Lib.hid hit
      clear hi1 hit ho1 ho2
      go_wp2_with (first
        | (at_builtin; have _t := p1; go_must (refine wpList_append_sl _ rfl (.tmp 16) (.tmp 18) _ rfl w.heap.size 2 i0 _ 8 Try.underlying22 hi0 hz0 hz1 hz2 rfl A1 n1 c1 _ rfl (kept_alloc p1 _) _ 1 1 [(k : Int)] rfl (one_sl .i64 _ _ _) (by simp only [maxLen]; omega) (by omega) (hx1.alloc _).size ?_); intro B1 m1 d1 w2 q1 hg1 hat1; have q2 := (kept_alloc p2 _).kept hg1 a12.ne; have hx2 := (hx1.alloc _).app (kept_alloc p1 _) hg1; have b12 := a12.app hat1 (fun g hg => ((kept_alloc p2 _).lt hg).2); have HI2 := Lib.hid (iter_kept (iter_alloc HI1.out _) (kept_alloc p1 _) hg1); clear _t p1 p2 hg1 hat1 a12 hx1)
        | (at_builtin; have _t := q2; go_must (refine wpList_append_sl _ rfl (.tmp 20) (.tmp 22) _ rfl w.heap.size 21 j0 _ 4 Try.underlying23 hj0 hy0 hy1 hy2 rfl A2 n2 c2 _ rfl (kept_alloc q2 _) _ 1 1 [(D1 : Int)] rfl (one_sl .i32 _ _ _) (by simp only [maxLen]; omega) (by omega) (hx2.alloc _).size ?_); intro B2 m2 d2 w3 r2 hg2 hat2; have r1 := (kept_alloc q1 _).kept hg2 b12.symm.ne; have hx3 := (hx2.alloc _).app (kept_alloc q2 _) hg2; have e12 := (b12.symm.app hat2 (fun g hg => ((kept_alloc q1 _).lt hg).2)).symm; have HI3 := Lib.hid (iter_kept (iter_alloc HI2.out _) (kept_alloc q2 _) hg2); clear _t q1 q2 hg2 hat2 b12 hx2))
      have HP3 := Lib.hid (iterPos_at HI3.out)
      go_roundw
      case rel =>
        refine ⟨k + D2, B1, m1, d1, B2, m2, d2, by omega, rfl, rfl, ⟨⟨ps ++ [(D1, D2)], HC2.out, ?_, ?_⟩, e12, HI3.out, hx3⟩⟩
        · rw [placesGo_snoc, TP.out, Nat.zero_add]; exact r1
        · rw [List.map_append]; exact r2
      case measure => rw [HP3.out, HP.out]; omega
    · have hnext := fun ty => run_next_end_at (P := Try.prog) wr (w.heap.size + 2) s k ty hit hlt
      have hst : Hid (steps s.data.toList = ps) := HC.out.done (by rw [LX.out]; omega)
      have HIT := Lib.hid hit
      clear hit
      go_wp2
      go_ret2
      refine ⟨A1, n1, c1, A2, n2, c2, rfl, ?_, ?_, a12, hnx⟩
      · unfold placesL; rw [hst.out]; exact ho1
      · unfold runesL; rw [hst.out]; exact ho2
set_option maxHeartbeats 400000 in
theorem specRange_any (s : ByteArray) (w : World) (hs : s.size ≤ 17592186044416) : Calls Try.prog 5 #[.string s] w fun e w' => ∃ A1 n1 c1 A2 n2 c2, e = .returned (.tuple #[.slice A1 n1 c1, .slice A2 n2 c2]) ∧ Own .i64 2 w.heap.size w' A1 n1 c1 (placesL s.data.toList) ∧ Own .i32 21 w.heap.size w' A2 n2 c2 (runesL s.data.toList) ∧ Nx w w' := by
  have hcv := fun W => run_str_bytes (P := Try.prog) 9 34 5 Try.underlying9 Try.underlying34 Try.underlying5 s W
  have hb : w.heap.size ≤ ((w.alloc (bytesObj 5 s w)).drew).heap.size := (nx_str_bytes 5 s w).size
  go_enter Try.func5, Try.ntmps5
  go_wp2_with fail
  refine (steps_any _ _ _ s.data.toList _ (by_str_bytes _ _ _) (grownCap_ge _ _ _ _) (by omega)).mono ?_
  rintro e w1 ⟨A1, n1, c1, A2, n2, c2, A3, n3, c3, rfl, ho1, ho2, ho3, hn1⟩
  clear hcv
  go_wp2
  go_ret2
  exact ⟨A1, n1, c1, A2, n2, c2, rfl, ho1.more hb, ho2.more hb, (nx_str_bytes 5 s w).trans hn1⟩
end Go.Proofs.Ytliaaandgeogjaa
