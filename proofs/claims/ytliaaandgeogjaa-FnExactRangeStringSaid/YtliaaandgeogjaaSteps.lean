/- Contract: spec.Steps: the places, the runes and the sizes that are met when some bytes are decoded one encoding after the other. -/
import Derived.Test.YtliaaandgeogjaaDecode
import Derived.Deep.DeepMust
namespace Go.Proofs.Ytliaaandgeogjaa
open Go.RowKit Go.Lib
set_option linter.unusedVariables false
theorem i64_info : (Try.prog.info? 2).map (fun i => (i.zero, i.size, i.bytes)) = some (some (.int .i64 0), 1, 8) := by kernel_rfl
theorem i32_info : (Try.prog.info? 21).map (fun i => (i.zero, i.size, i.bytes)) = some (some (.int .i32 0), 1, 4) := by kernel_rfl
/-- Three new slices. -/
def StepsPost (l : List UInt8) (w : World) (e : Ending) (w' : World) : Prop :=
  ∃ A1 n1 c1 A2 n2 c2 A3 n3 c3, e = .returned (.tuple #[.slice A1 n1 c1, .slice A2 n2 c2, .slice A3 n3 c3]) ∧ Own .i64 2 w.heap.size w' A1 n1 c1 (placesL l) ∧ Own .i32 21 w.heap.size w' A2 n2 c2 (runesL l) ∧ Own .i64 2 w.heap.size w' A3 n3 c3 (sizesL l) ∧ Nx w w'
/-- What the loop of Steps holds. -/
structure StepsRel (l : List UInt8) (w wr : World) (i : Nat) (A1 : Option Addr) (n1 c1 : Nat) (A2 : Option Addr) (n2 c2 : Nat) (A3 : Option Addr) (n3 c3 : Nat) : Prop where
  ps : ∃ ps, Come l i ps ∧ Own .i64 2 w.heap.size wr A1 n1 c1 (placesGo 0 ps) ∧ Own .i32 21 w.heap.size wr A2 n2 c2 (ps.map fun p => (p.1 : Int)) ∧ Own .i64 2 w.heap.size wr A3 n3 c3 (ps.map fun p => (p.2 : Int))
  a12 : Apart A1 A2
  a13 : Apart A1 A3
  a23 : Apart A2 A3
  nx : Nx w wr
set_option maxHeartbeats 2000000 in
theorem steps_any (A : Option Addr) (n c : Nat) (l : List UInt8) (w : World) (hl : By w A n l) (hc : n ≤ c) (hn : n ≤ 17592186044416) :
    Calls Try.prog 14 #[.slice A n c] w (StepsPost l w) := by
  obtain ⟨i0, hi0, hz0, hz1, hz2⟩ := info_parts i64_info
  obtain ⟨j0, hj0, hy0, hy1, hy2⟩ := info_parts i32_info
  have LX := Lib.hid hl.len
  go_enter Try.func14, Try.ntmps14
  go_wp2
  go_loopw [5, 6, 7, 8] (fun v1 v2 v3 i wr => ∃ (k : Nat) (A1 : Option Addr) (n1 c1 : Nat) (A2 : Option Addr) (n2 c2 : Nat) (A3 : Option Addr) (n3 c3 : Nat), k ≤ n ∧ i = .int .i64 k ∧ v1 = .slice A1 n1 c1 ∧ v2 = .slice A2 n2 c2 ∧ v3 = .slice A3 n3 c3 ∧ StepsRel l w wr k A1 n1 c1 A2 n2 c2 A3 n3 c3) (fun _ _ _ i _ => n - (intOf i).toNat)
  case atStart =>
    refine ⟨0, _, 0, 0, _, 0, 0, _, 0, 0, Nat.zero_le _, rfl, rfl, rfl, rfl, ?_⟩
    refine ⟨⟨[], Come.start l, ?_, ?_, ?_⟩, Apart.lit (by omega), Apart.lit (by omega), Apart.lit (by omega), (((Nx.refl _).alloc _).alloc _).alloc _⟩
    · exact kept_alloc (kept_alloc (Own.new .i64 _ w.heap.size w (Nat.le_refl _) [] _ 0 rfl rfl (by simp [maxLen])) _) _
    · exact kept_alloc (Own.new_at .i32 _ w.heap.size (w.alloc _) _ (by simp) (by omega) [] _ 0 rfl rfl (by simp [maxLen])) _
    · exact Own.new_at .i64 _ w.heap.size ((w.alloc _).alloc _) _ (by simp) (by omega) [] _ 0 rfl rfl (by simp [maxLen])
  case round =>
    obtain ⟨k, A1, n1, c1, A2, n2, c2, A3, n3, c3, hk, rfl, rfl, rfl, rfl, ⟨⟨ps, hcome, ho1, ho2, ho3⟩, a12, a13, a23, hnx⟩⟩ := hrel
    have hps : ps.length ≤ k := hcome.2.2.2
    have hm1 : n1 ≤ k := by have := ho1.len; rw [placesGo_length] at this; omega
    have hm2 : n2 ≤ k := by have := ho2.len; rw [List.length_map] at this; omega
    have hm3 : n3 ≤ k := by have := ho3.len; rw [List.length_map] at this; omega
    have HC := Lib.hid hcome
    clear hcome
    by_cases hlt : k < n
    · have hcut := fun W => run_cut (P := Try.prog) 34 5 Try.underlying34 (fun _ => by kernel_rfl) A n c .i64 (k : Int) k rfl hk W
      obtain ⟨hcome', hd1, hd2⟩ := HC.out.step (by rw [LX.out]; exact hlt)
      rw [LX.out] at hd2
      obtain ⟨D1, D2, hD⟩ : ∃ D1 D2, Hid (dec (l.drop k) = (D1, D2)) := ⟨_, _, rfl⟩
      rw [hD.out] at hcome' hd1 hd2
      simp only at hcome' hd1 hd2
      have HC2 := Lib.hid hcome'
      clear hcome'
      have hD1 : (D1 : Int) ≤ 1114111 := by
        have h1 := dec_rune_le (l.drop k)
        rw [hD.out] at h1
        exact Int.ofNat_le.2 h1
      have cd := Lib.hid fun W (hW : Nx w W) => specDecode_any (cutA A c k) (n - k) (c - k) (l.drop k) W ((hl.next hW).from_ hk hc) (by omega) (by omega)
      rw [hD.out] at cd
      have TP : Hid (total ps = k) := HC.out.2.1
      go_wp2_with (first
        | (go_at_call 15; refine (cd.out _ hnx).mono ?_; rintro e w1 ⟨rfl, hn1⟩; have p1 := ho1.next hn1; have p2 := ho2.next hn1; have p3 := ho3.next hn1; have hx1 := hnx.trans hn1; clear ho1 ho2 ho3 hnx)
        | (at_builtin; have _t := p1; go_must (refine wpList_append_sl _ rfl (.tmp 25) (.tmp 27) _ rfl w.heap.size 2 i0 _ 8 Try.underlying22 hi0 hz0 hz1 hz2 rfl A1 n1 c1 _ rfl (kept_alloc p1 _) _ 1 1 [(k : Int)] rfl (one_sl .i64 _ _ _) (by simp only [maxLen]; omega) (by omega) (hx1.alloc _).size ?_); intro B1 m1 d1 w2 q1 hg1 hat1; have q2 := (kept_alloc p2 _).kept hg1 a12.ne; have q3 := (kept_alloc p3 _).kept hg1 a13.ne; have hx2 := (hx1.alloc _).app (kept_alloc p1 _) hg1; have b12 := a12.app hat1 (fun g hg => ((kept_alloc p2 _).lt hg).2); have b13 := a13.app hat1 (fun g hg => ((kept_alloc p3 _).lt hg).2); clear _t p1 p2 p3 hg1 hat1 a12 a13 hx1)
        | (at_builtin; have _t := q2; go_must (refine wpList_append_sl _ rfl (.tmp 29) (.tmp 31) _ rfl w.heap.size 21 j0 _ 4 Try.underlying23 hj0 hy0 hy1 hy2 rfl A2 n2 c2 _ rfl (kept_alloc q2 _) _ 1 1 [(D1 : Int)] rfl (one_sl .i32 _ _ _) (by simp only [maxLen]; omega) (by omega) (hx2.alloc _).size ?_); intro B2 m2 d2 w3 r2 hg2 hat2; have r1 := (kept_alloc q1 _).kept hg2 b12.symm.ne; have r3 := (kept_alloc q3 _).kept hg2 a23.ne; have hx3 := (hx2.alloc _).app (kept_alloc q2 _) hg2; have e12 := (b12.symm.app hat2 (fun g hg => ((kept_alloc q1 _).lt hg).2)).symm; have e23 := a23.app hat2 (fun g hg => ((kept_alloc q3 _).lt hg).2); clear _t q1 q2 q3 hg2 hat2 b12 a23 hx2)
        | (at_builtin; have _t := r3; go_must (refine wpList_append_sl _ rfl (.tmp 33) (.tmp 35) _ rfl w.heap.size 2 i0 _ 8 Try.underlying22 hi0 hz0 hz1 hz2 rfl A3 n3 c3 _ rfl (kept_alloc r3 _) _ 1 1 [(D2 : Int)] rfl (one_sl .i64 _ _ _) (by simp only [maxLen]; omega) (by omega) (hx3.alloc _).size ?_); intro B3 m3 d3 w4 s3 hg3 hat3; have s1 := (kept_alloc r1 _).kept hg3 b13.symm.ne; have s2 := (kept_alloc r2 _).kept hg3 e23.symm.ne; have hx4 := (hx3.alloc _).app (kept_alloc r3 _) hg3; have f13 := (b13.symm.app hat3 (fun g hg => ((kept_alloc r1 _).lt hg).2)).symm; have f23 := (e23.symm.app hat3 (fun g hg => ((kept_alloc r2 _).lt hg).2)).symm; clear _t r1 r2 r3 hg3 hat3 b13 e23 hx3))
      go_roundw
      case rel =>
        refine ⟨k + D2, B1, m1, d1, B2, m2, d2, B3, m3, d3, by omega, by go_num, rfl, rfl, rfl, ⟨⟨ps ++ [(D1, D2)], HC2.out, ?_, ?_, ?_⟩, e12, f13, f23, hx4⟩⟩
        · rw [placesGo_snoc, TP.out, Nat.zero_add]; exact s1
        · rw [List.map_append]; exact s2
        · rw [List.map_append]; exact s3
      case measure => simp [intOf]; omega
    · have hst : steps l = ps := HC.out.done (by rw [LX.out]; omega)
      go_wp2
      go_ret3
      refine ⟨A1, n1, c1, A2, n2, c2, A3, n3, c3, rfl, ?_, ?_, ?_, hnx⟩
      · unfold placesL; rw [hst]; exact ho1
      · unfold runesL; rw [hst]; exact ho2
      · unfold sizesL; rw [hst]; exact ho3
end Go.Proofs.Ytliaaandgeogjaa
