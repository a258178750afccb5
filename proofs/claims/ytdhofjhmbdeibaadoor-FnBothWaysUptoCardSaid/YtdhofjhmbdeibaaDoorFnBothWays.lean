/- FnBothWays: decoding any bytes from the end, one encoding after the other, meets the same runes with the same sizes as from the beginning, in the opposite order. The condition: what is read is of bulk at most 1048576; the tables are those that the program lays. -/
import Derived.Test.YtdhofjhmbdeibaaDoorFrame
import Derived.Test.YtdhofjhmbdeibaaDoorDecodeU
import Derived.Test.YtdhofjhmbdeibaaDoorSteps
import Derived.Test.YtdhofjhmbdeibaaDoorPlainE
namespace Go.Proofs.YtdhofjhmbdeibaaDoor
open Go.RowKit Go.Lib
set_option linter.unusedVariables false
/-- What the first loop holds. -/
structure BothRel (l : List UInt8) (w wr : World) (i : Nat) (A2 : Option Addr) (n2 c2 : Nat) (A3 : Option Addr) (n3 c3 : Nat) : Prop where
  ps : ∃ ps, Come l i ps ∧ Own .i32 21 w.heap.size wr A2 n2 c2 (ps.map fun p => (p.1 : Int)) ∧ Own .i64 2 w.heap.size wr A3 n3 c3 (ps.map fun p => (p.2 : Int))
  a23 : Apart A2 A3
  nx : Nx w wr
/-- Where the second loop stands. -/
theorem back_step {l : List UInt8} {i m : Nat} (hi : i < (steps l).length) (hm : m ≤ l.length) (h : steps (l.take m) = (steps l).take (i + 1)) :
    decodeLastL (l.take m) = (steps l)[i]'hi ∧ ((steps l)[i]'hi).2 ≤ m ∧ steps (l.take (m - ((steps l)[i]'hi).2)) = (steps l).take i := by
  rw [List.take_succ_eq_append_getElem hi] at h
  obtain ⟨h1, h2⟩ := last_step _ _ _ h
  rw [List.length_take, Nat.min_eq_left hm] at h2
  refine ⟨h1, by omega, ?_⟩
  have h3 := (steps_take _ _ _ h).1
  rw [List.take_take] at h3
  have e : min (total ((steps l).take i)) m = m - ((steps l)[i]'hi).2 := by omega
  rw [e] at h3
  exact h3
set_option maxRecDepth 100000 in
set_option maxHeartbeats 4000000 in
theorem fnBothWays_walk (A0 : Option Addr) (n0 c0 : Nat) (l0 : List UInt8) (w : World) (hT : Tabs w) (e0 : By w A0 n0 l0) (g0 : n0 ≤ c0) (m0 : c0 ≤ 1048576) :
    Calls Tryd.prog 12 #[.slice A0 n0 c0] w fun e w' => e = .returned (.bool true) ∧ Nx w w' := by
  obtain ⟨i0, hi0, hz0, hz1, hz2⟩ := info_parts i64_info
  obtain ⟨j0, hj0, hy0, hy1, hy2⟩ := info_parts i32_info
  have LX := Lib.hid e0.len
  go_enter Tryd.func12, Tryd.ntmps12
  go_wp2
  go_loopw [3, 4, 5] (fun v2 v3 i wr => ∃ (k : Nat) (A2 : Option Addr) (n2 c2 : Nat) (A3 : Option Addr) (n3 c3 : Nat), k ≤ n0 ∧ i = .int .i64 k ∧ v2 = .slice A2 n2 c2 ∧ v3 = .slice A3 n3 c3 ∧ BothRel l0 w wr k A2 n2 c2 A3 n3 c3) (fun _ _ i _ => n0 - (RowKit.intOf i).toNat)
  case atStart =>
    refine ⟨0, _, 0, 0, _, 0, 0, Nat.zero_le _, rfl, rfl, rfl, ?_⟩
    refine ⟨⟨[], Come.start l0, ?_, ?_⟩, Apart.lit (by omega), ((Nx.refl _).alloc _).alloc _⟩
    · exact kept_alloc (Own.new .i32 _ w.heap.size w (Nat.le_refl _) [] _ 0 rfl rfl (by simp [maxLen])) _
    · exact Own.new_at .i64 _ w.heap.size (w.alloc _) _ (by simp) (by omega) [] _ 0 rfl rfl (by simp [maxLen])
  case round =>
    obtain ⟨k, A2, n2, c2, A3, n3, c3, hk, rfl, rfl, rfl, ⟨⟨ps, hcome, ho2, ho3⟩, a23, hnx⟩⟩ := hrel
    have hps : ps.length ≤ k := hcome.2.2.2
    have hm2 : n2 ≤ k := by have := ho2.len; rw [List.length_map] at this; omega
    have hm3 : n3 ≤ k := by have := ho3.len; rw [List.length_map] at this; omega
    have HC := Lib.hid hcome
    clear hcome
    by_cases hlt : k < n0
    · have hcut := fun W => run_cut (P := Tryd.prog) 30 5 Tryd.underlying30 (fun _ => by kernel_rfl) A0 n0 c0 .i64 (k : Int) k rfl hk W
      obtain ⟨hcome', hd1, hd2⟩ := HC.out.step (by rw [LX.out]; exact hlt)
      rw [LX.out] at hd2
      obtain ⟨D1, D2, hD⟩ : ∃ D1 D2, Hid (dec (l0.drop k) = (D1, D2)) := ⟨_, _, rfl⟩
      rw [hD.out] at hcome' hd1 hd2
      simp only at hcome' hd1 hd2
      have HC2 := Lib.hid hcome'
      clear hcome'
      have cd := Lib.hid fun W (hW : Nx w W) => decode_any (cutA A0 c0 k) (n0 - k) (c0 - k) (l0.drop k) W (hT.next hW) ((e0.next hW).from_ hk g0)
      rw [hD.out] at cd
      go_wp2_with (first
        | (go_at_call 22; refine (cd.out _ hnx).mono ?_; rintro e w1 ⟨rfl, hn1⟩; have q2 := ho2.next hn1; have q3 := ho3.next hn1; have hx2 := hnx.trans hn1; clear ho2 ho3 hnx)
        | (at_builtin; have _t := q2; go_must (refine wpList_append_sl _ rfl (.tmp 27) (.tmp 29) _ rfl w.heap.size 21 j0 _ 4 Tryd.underlying23 hj0 hy0 hy1 hy2 rfl A2 n2 c2 _ rfl (kept_alloc q2 _) _ 1 1 [(D1 : Int)] rfl (one_sl .i32 _ _ _) (by simp only [maxLen]; omega) (by omega) (hx2.alloc _).size ?_); intro B2 m2 d2 w3 r2 hg2 hat2; have r3 := (kept_alloc q3 _).kept hg2 a23.ne; have hx3 := (hx2.alloc _).app (kept_alloc q2 _) hg2; have e23 := a23.app hat2 (fun g hg => ((kept_alloc q3 _).lt hg).2); clear _t q2 q3 hg2 hat2 a23 hx2)
        | (at_builtin; have _t := r3; go_must (refine wpList_append_sl _ rfl (.tmp 31) (.tmp 33) _ rfl w.heap.size 2 i0 _ 8 Tryd.underlying22 hi0 hz0 hz1 hz2 rfl A3 n3 c3 _ rfl (kept_alloc r3 _) _ 1 1 [(D2 : Int)] rfl (one_sl .i64 _ _ _) (by simp only [maxLen]; omega) (by omega) (hx3.alloc _).size ?_); intro B3 m3 d3 w4 s3 hg3 hat3; have s2 := (kept_alloc r2 _).kept hg3 e23.symm.ne; have hx4 := (hx3.alloc _).app (kept_alloc r3 _) hg3; have f23 := (e23.symm.app hat3 (fun g hg => ((kept_alloc r2 _).lt hg).2)).symm; clear _t r2 r3 hg3 hat3 e23 hx3))
      go_roundw
      case rel =>
        refine ⟨k + D2, B2, m2, d2, B3, m3, d3, by omega, by go_num, rfl, rfl, ⟨⟨ps ++ [(D1, D2)], HC2.out, ?_, ?_⟩, f23, hx4⟩⟩
        · rw [List.map_append]; exact s2
        · rw [List.map_append]; exact s3
      case measure => simp [RowKit.intOf]; omega
    · have hst : steps l0 = ps := HC.out.done (by rw [LX.out]; omega)
      have e2 : n2 = (steps l0).length := by rw [ho2.len, List.length_map, hst]
      have e3 : n3 = (steps l0).length := by rw [ho3.len, List.length_map, hst]
      have s2 := ho2.sl
      have s3 := ho3.sl
      rw [← hst] at s2 s3
      obtain ⟨N, hN⟩ : ∃ N, Hid ((steps l0).length = N) := ⟨_, rfl⟩
      rw [hN.out] at e2 e3
      subst e3
      subst e2
      have P0 : Hid (steps (l0.take n0) = (steps l0).take n2) := by show _ = _; rw [List.take_of_length_le (by rw [LX.out]; exact Nat.le_refl _), List.take_of_length_le (by rw [hN.out]; exact Nat.le_refl _)]
      have hN0 : n2 ≤ n0 := by rw [← hN.out, ← LX.out]; exact steps_len l0
      clear HC hst ho2 ho3 a23 hps
      go_wp2
      go_loopw [8, 9] (fun v i wr2 => ∃ (j m : Nat), j ≤ n2 ∧ m ≤ n0 ∧ i = .int .i64 ((j : Int) - 1) ∧ v = .slice A0 m c0 ∧ Hid (steps (l0.take m) = (steps l0).take j) ∧ Nx wr wr2) (fun _ i _ => ((RowKit.intOf i) + 1).toNat)
      case atStart => exact ⟨n2, n0, Nat.le_refl _, Nat.le_refl _, rfl, rfl, P0, Nx.refl _⟩
      case round =>
        obtain ⟨j, m, hj, hm, rfl, rfl, hst, hn2⟩ := hrel
        have y2 := hnx.trans hn2
        by_cases hj0 : j = 0
        · subst hj0
          have hm0 : m = 0 := by
            have h1 := hst.out
            rw [List.take_zero] at h1
            have h2 := total_steps (l0.take m)
            rw [h1, total_nil, List.length_take, LX.out] at h2
            omega
          subst hm0
          go_wp2_with fail
          go_ret
          exact ⟨rfl, y2⟩
        · obtain ⟨i, rfl⟩ : ∃ i, j = i + 1 := ⟨j - 1, by omega⟩
          have hik : i < n2 := by omega
          have hil : i < (steps l0).length := by rw [hN.out]; exact hik
          obtain ⟨D1, D2, hD⟩ : ∃ D1 D2, Hid ((steps l0)[i]'hil = (D1, D2)) := ⟨_, _, rfl⟩
          have hbs := back_step hil (by rw [LX.out]; exact hm) hst.out
          rw [hD.out] at hbs
          obtain ⟨bl, bm, bst⟩ := hbs
          simp only at bm bst
          have HL := Lib.hid bl
          have HS := Lib.hid bst
          have hD1 : 1 ≤ D2 := by
            have h1 := (last_bounds (l0.take m)).2.2.2.1 (by
              intro h0
              have h2 := hst.out
              rw [h0, steps_nil] at h2
              have := congrArg List.length h2
              rw [List.length_take, List.length_nil] at this
              omega)
            rw [bl] at h1
            exact h1
          obtain ⟨b1, f1, u1, rfl, hb1, d1, hu1⟩ := (s2.next hn2).at_ (k := i) hik
          obtain ⟨b2, f2, u2, rfl, hb2, d2, hu2⟩ := (s3.next hn2).at_ (k := i) hik
          have E1 : u1 = (D1 : Int) := by rw [← hu1.out]; simp only [List.getD, List.getElem?_map, List.getElem?_eq_getElem hil, Option.map_some, Option.getD_some, hD.out]
          have E2 : u2 = (D2 : Int) := by rw [← hu2.out]; simp only [List.getD, List.getElem?_map, List.getElem?_eq_getElem hil, Option.map_some, Option.getD_some, hD.out]
          subst E1
          subst E2
          have sj := By.upto (j := m) e0 hm
          have hup := fun W => run_upto (P := Tryd.prog) 30 5 Tryd.underlying30 (fun _ => by kernel_rfl) A0 m c0 .i64 ((m : Int) - (D2 : Int)) (m - D2) (by omega) (by omega) W
          have r1 : ((D1 : Int) != (D1 : Int)) = false := by simp
          have r2 : ((D2 : Int) != (D2 : Int)) = false := by simp
          have Q1 : Hid (∀ w3, Nx wr w3 → w3.cell? ⟨b1, f1 + i, none⟩ = some (.int .i32 (D1 : Int)) ∧ w3.cell? ⟨b2, f2 + i, none⟩ = some (.int .i64 (D2 : Int))) := fun w3 h => ⟨(h.cell (p := ⟨b1, f1 + i, none⟩) hb1).trans d1, (h.cell (p := ⟨b2, f2 + i, none⟩) hb2).trans d2⟩
          have HI : ((i + 1 : Nat) : Int) - 1 = (i : Int) := by omega
          rw [HI]
          have i1 : (i : Int) < (n2 : Int) := by omega
          clear d1 d2 hu1 hu2 hj0 HI bl bst
          go_wp2_with fail
          refine (last_any _ _ _ (l0.take m) _ (hT.next y2) (sj.next y2) (by omega) (by omega)).mono ?_
          rw [HL.out]
          rintro e w3 ⟨rfl, x3⟩
          obtain ⟨d1, d2⟩ := Q1.out w3 x3
          go_wp2_with fail
          go_roundw
          case rel => exact ⟨i, m - D2, by omega, by omega, by go_num, rfl, HS, hn2.trans x3⟩
          case measure => simp [RowKit.intOf] <;> omega
namespace fnBothWays
open Go.ChangeShapes Go.WideShapes Go.ChangeAt Go.RowKit
open Go.ChangeMaps (open_string shut_string)
set_option maxRecDepth 100000 in
set_option linter.unusedVariables false in
theorem laid_met (os : Os) : laidMet Tryd.prog Rows.fnBothWaysUptoRow.laid ((laidWorld os).forCall (fun _ _ => 0) ⟨#[], #[.slice none 0 0], []⟩).memory :=
  laidMet_of_run' 8 (by kernel_rfl) (by kernel_rfl)
theorem reads (os : Os) {H : Type} (enc : TypeId × Value → H) : ∃ places, DataW.whole enc Tryd.prog ((laidWorld os).forCall (fun _ _ => 0) ⟨#[], #[.slice none 0 0], []⟩).memory Tryd.f12.params.toList Rows.fnBothWaysSpec.vars false (#[.slice none 0 0] : Array Value).toList 8 = some ([.nil], [], places) :=
  ⟨[], by kernel_rfl⟩
set_option maxRecDepth 100000 in
set_option linter.unusedVariables false in
theorem lifted (os : Os) (started : os.Started) (H : Type) (enc : TypeId × Value → H) (F : Stop.Interp) :
    ReturnsInHanded {} Tryd.checked os 12 .any ((Rows.OpenSpec.upto Rows.fnBothWaysSpec).preRow enc Tryd.prog Tryd.f12 Rows.fnBothWaysUptoRow.domain false Rows.fnBothWaysUptoRow.laid) (((Rows.OpenSpec.upto Rows.fnBothWaysSpec).at F).post enc Tryd.prog Tryd.f12 false true false false) := by
  obtain ⟨places, hx⟩ := reads os enc
  refine returnsInHanded_of_row (C := Tryd.checked) (s := (Rows.OpenSpec.upto Rows.fnBothWaysSpec)) own started (by kernel_rfl) Tryd.func12
    (witness_row_at (enc := enc) (C := Tryd.checked) false (laidWorld os) #[.slice none 0 0] rfl (by kernel_rfl) (by kernel_rfl) (by kernel_rfl)
      (OpenSpec.preRow_of_cond 8 hx (by kernel_rfl) (fun k hk => by cases hk; kernel_rfl) (by kernel_rfl) (laid_met os))) ?_
  intro W base args ds gs before hval0 hW _ hkk hsz0 hL _ _
  have hk := hkk _ rfl
  have hval : ∀ (j : Nat) t v, Tryd.f12.params[j]? = some t → args[j]? = some v → Value.okWide Tryd.prog W .any base t v := hval0
  have hW' := hW
  obtain ⟨p, q, hA0, hV, rfl, hfz, hnd⟩ := hW
  have hA : DataW.TrodAll enc Tryd.prog W 0 (fun _ => true) true Tryd.f12.params.toList args.toList ds p := hA0
  rw [Tryd.params12] at hA hval
  obtain ⟨v0, vs0, d0, ds0, p0, q0, hargs, rfl, rfl, h0, r0⟩ := trodAll_cons hA
  obtain ⟨rfl, rfl, rfl⟩ := trodAll_nil r0
  obtain rfl : args = #[v0] := by cases args; simp_all
  obtain ⟨rfl, rfl⟩ := trodVars_none hV
  have k0 := h0
  have lt0 : ∀ x ∈ p0, x.block < W.heap.size := by obtain ⟨m, hm⟩ := k0; exact DataW.trod_lt m _ _ _ hm
  obtain ⟨A0, n0, c0, l0, rfl, e0, g0, m0, u0⟩ := open_by Tryd.underlying30 Tryd.underlying5 (by kernel_rfl) (hval 0 30 v0 rfl rfl) h0
  have z0 : c0 ≤ 1048576 := by have := bulk_held u0; have hb := bulk_bound hk; simp only [Rows.uptoBulkAll, List.append_nil] at hb; omega
  clear hA0 hval0
  refine (fnBothWays_walk A0 n0 c0 l0 W (tabs hL) e0 g0 z0).mono fun e W' ⟨he, bel⟩ => ?_
  subst he
  exact ⟨_, rfl, _, _, _, [], _, [], hW', trodAll_mk1 (shut_bool Tryd.underlying4 _), (trodAll_cons_mk (Below.trod laidOut (by kernel_rfl) (of_decide_eq_true (by kernel_rfl)) k0 bel.out lt0) trodAll_mk0), rfl, bel.out.frame _, fun h => by cases h⟩
theorem row : Rows.FnBothWaysUptoSaid :=
  OpenClaim.holds_of_cond 12 Tryd.f12 rfl rfl rfl rfl rfl rfl rfl ⟨rfl, rfl, rfl, rfl, rfl⟩ rfl rfl rfl rfl rfl (by kernel_rfl) Tryd.func12 (by kernel_rfl)
    (of_decide_eq_true (by kernel_rfl)) (by unfold Func.isWrapper; first | (rw [if_pos (by decide +kernel)]; kernel_rfl) | (rw [if_neg (by decide +kernel)]; exact ⟨rfl, rfl⟩))
    (fun os started H enc _ F => by rw [OpenClaim.pre_eq_preRow]; exact lifted os started H enc F)
theorem plain (f : FuncId) (fn : Func) (hf : Tryd.pinned.checked.prog.funcNamed Rows.fnBothWaysUptoRow.func = some f) (hfn : Tryd.pinned.checked.prog.funcs[f]? = some fn) :
    false = Tryd.pinned.checked.prog.looks [] ∧ ∀ (j : Nat) t, fn.params[j]? = some t → Tryd.pinned.checked.prog.wantsStandIn t = false := by
  obtain rfl : f = 12 := Option.some.inj ((show Tryd.prog.funcNamed Rows.fnBothWaysUptoRow.func = some 12 by kernel_rfl).symm.trans hf) |>.symm
  obtain rfl : fn = Tryd.f12 := (Option.some.inj (Tryd.func12.symm.trans hfn)).symm
  refine ⟨by kernel_rfl, fun j t ht => ?_⟩
  rw [Tryd.params12] at ht
  have hm := Array.mem_of_getElem? ht
  have hor : t = 30 := by simp at hm; omega
  subst hor
  exact (show Tryd.prog.wantsStandIn 30 = false by kernel_rfl)
theorem said : Rows.FnBothWaysUptoCardSaid :=
  Claim7.holds_tied_plain_at .later [] _ _ _ _ row (fun _ h => by cases h) (by kernel_rfl) (fun _ h => by cases h) fnBothWaysUpto_row_tie rfl ⟨rfl, rfl⟩ (by kernel_rfl) rfl plain (by kernel_rfl)
end fnBothWays
end Go.Proofs.YtdhofjhmbdeibaaDoor
