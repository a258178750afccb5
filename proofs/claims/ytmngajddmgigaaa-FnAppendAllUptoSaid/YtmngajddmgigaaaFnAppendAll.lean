/- FnAppendAll: runes that are appended one after the other are the conversion of all of them. The condition: what is read is of bulk at most 1048576. -/
import Derived.Test.YtmngajddmgigaaaFrame
import Derived.Test.YtmngajddmgigaaaConv
import Derived.Test.YtmngajddmgigaaaAppend
import Derived.Deep.RegionHeld3
import Derived.IntWalk
import Derived.Deep.QuietTactic
import Derived.BigQuiet
import Derived.Laws.Concat
namespace Go.Proofs.Ytmngajddmgigaaa
open Go.RowKit Go.Lib
set_option linter.unusedVariables false
theorem text_take_one (z : List Int) (k : Nat) (hk : k < z.length) : text (z.take (k + 1)) = text (z.take k) ++ encodeRune (z.getD k 0) := by
  rw [List.take_succ_eq_append_getElem hk, text_append]
  simp [text, List.getD, List.getElem?_eq_getElem hk]
set_option maxRecDepth 100000 in
set_option maxHeartbeats 1000000 in
theorem fnAppendAll_walk (A0 : Option Addr) (n0 c0 : Nat) (l0 : List UInt8) (A1 : Option Addr) (n1 c1 : Nat) (z1 : List Int) (w : World) (e0 : By w A0 n0 l0) (g0 : n0 ≤ c0) (m0 : c0 ≤ 1048576)
    (e1 : Sl .i32 w A1 n1 z1) (b1 : ∀ z ∈ z1, -2147483648 ≤ z ∧ z ≤ 2147483647) (g1 : n1 ≤ c1) (m1 : c1 ≤ 1048576) (_hu : c0 + c1 ≤ 1048576) :
    Calls Try.prog 7 #[.slice A0 n0 c0, .slice A1 n1 c1] w fun e w' => e = .returned (.bool true) ∧ Nx w w' := by
  have LX := Lib.hid e0.len
  have LY := Lib.hid e1.len
  have hb1 := Lib.hid b1
  clear b1
  go_enter Try.func7, Try.ntmps7
  go_wp2_with fail
  go_loopw [5, 6] (fun v i wr => ∃ (k n c : Nat) (A : Option Addr), k ≤ n1 ∧ i = .int .i64 k ∧ v = .slice A n c ∧ n0 + k ≤ n ∧ n ≤ n0 + 4 * k ∧ By wr A n (l0 ++ text (z1.take k)) ∧ Nx w wr) (fun _ i _ => n1 - (RowKit.intOf i).toNat)
  case atStart => exact ⟨0, n0, c0, A0, Nat.zero_le _, rfl, rfl, by omega, by omega, by simpa [text] using e0, Nx.refl _⟩
  case round =>
    obtain ⟨k, n, c, A, hk, rfl, rfl, hn, hn4, hby, hnx⟩ := hrel
    by_cases hlt : k < n1
    · obtain ⟨b, off, u, rfl, hb, q1, hu⟩ := (e1.next hnx).at_ hlt
      have hu1 : -2147483648 ≤ u ∧ u ≤ 2147483647 := by
        have h := hb1.out (z1.getD k 0) (by
          have hk' : k < z1.length := by rw [LY.out]; exact hlt
          simp only [List.getD, List.getElem?_eq_getElem hk', Option.getD_some]
          exact List.getElem_mem hk')
        rw [hu.out] at h
        exact h
      obtain ⟨u0, u1⟩ := hu1
      have HS : Hid (l0 ++ text (z1.take k) ++ encodeRune u = l0 ++ text (z1.take (k + 1))) := by
        show _ = _
        rw [text_take_one z1 k (by rw [LY.out]; exact hlt), hu.out, List.append_assoc]
      have hl := Lib.hid hby.len
      go_wp2_with fail
      refine (append_any _ _ _ _ _ _ hby u0 u1 (by omega)).mono ?_
      rintro e w2 ⟨A2, n2, c2, rfl, o2, x2⟩
      have hl2 : Hid (n2 = n + (encodeRune u).length) := by
        show _ = _
        have := o2.len
        rw [nums_length, List.length_append, hl.out] at this
        exact this
      have he1 := (enc_length u).1
      have he2 := (enc_length u).2
      have hn2 : n0 + (k + 1) ≤ n2 ∧ n2 ≤ n0 + 4 * (k + 1) := by have := hl2.out; omega
      have s2 := o2.sl
      rw [HS.out] at s2
      clear he1 he2 o2
      go_wp2_with fail
      go_roundw
      case rel => exact ⟨k + 1, n2, c2, A2, by omega, by go_num, rfl, hn2.1, hn2.2, s2, hnx.trans x2⟩
      case measure => simp [RowKit.intOf]; omega
    · obtain rfl : k = n1 := by omega
      have ht : z1.take k = z1 := List.take_of_length_le (by rw [LY.out]; exact Nat.le_refl _)
      rw [ht] at hby
      obtain ⟨X, hX⟩ : ∃ X, Hid (strOf (l0 ++ text z1) = X) := ⟨_, rfl⟩
      obtain ⟨P0, hP⟩ : ∃ X, Hid (strOf l0 = X) := ⟨_, rfl⟩
      obtain ⟨Q0, hQ⟩ : ∃ X, Hid (strOf (text z1) = X) := ⟨_, rfl⟩
      have hsum : P0 ++ Q0 = X := by rw [← hP.out, ← hQ.out, ← hX.out, append_strOf]
      have heq : (X.toList == (P0 ++ Q0).toList) = true := by rw [hsum]; simp
      have hp0 : P0.size = n0 := by rw [← hP.out, strOf_size, LX.out]
      have hq0 : Q0.size ≤ 4194304 := by have := (text_length z1).2; rw [← hQ.out, strOf_size]; rw [LY.out] at this; omega
      have hs1 : P0.size + Q0.size ≤ 9223372036854775807 := by omega
      have hi1 : (P0.size : Int) ≤ 8388608 := by omega
      have hi2 : (Q0.size : Int) ≤ 8388608 := by omega
      have hadd := fun W => run_string_add (P := Try.prog) (w := W) P0 Q0 hi1 hi2
      have cq := Lib.hid fun W hx => stringOf_any A1 k c1 z1 W hx
      rw [hQ.out] at cq
      have ta := fun W (h : Nx wr W) => run_bytes_str (P := Try.prog) 22 9 5 Try.underlying22 Try.underlying5 Try.underlying9 W A n c _ (hby.next h)
      have tb := fun W (h : Nx wr W) => run_bytes_str (P := Try.prog) 22 9 5 Try.underlying22 Try.underlying5 Try.underlying9 W A0 n0 c0 _ ((e0.next hnx).next h)
      rw [hX.out] at ta
      rw [hP.out] at tb
      have ta0 := ta wr.drew (Nx.refl _).drew
      have tb0 := tb wr.drew (Nx.refl _).drew
      have e1' := e1.next hnx
      clear hsum hp0 ht
      by_cases h0 : k = 0
      · subst h0
        have ta1 := fun q => ta (wr.drewN q) ((Nx.refl _).drewN _)
        have tb1 := fun q => tb (wr.drewN q) ((Nx.refl _).drewN _)
        go_wp2_with fail
        go_quiet ((go_at_call 23; refine Calls.quiet_of_same (v := .string Q0) ((cq.out _ (e1'.next ((Nx.refl _).drewN _))).mono ?_); rintro e w' ⟨he, hw⟩; exact ⟨he, hw.symm⟩))
        go_wp2_with fail
        go_ret
        exact ⟨rfl, hnx.drewN _⟩
      · have h1 : ((k : Int) == 0) = false := by simp [h0]
        have h2 : n0 < n := by omega
        have h3 : ((k : Int) = 0) = False := by simp; omega
        go_wp2_with fail
        go_region_held3 (fun w' => Nx wr w') (exact (Nx.refl _).drew) (first | (go_at_call 23; refine (cq.out _ (e1'.next (Nx.refl _).drew)).mono ?_; rintro e w' ⟨rfl, rfl⟩) | fail)
        go_wp2_with fail
        go_ret
        exact ⟨rfl, hnx.drew⟩
namespace fnAppendAll
open Go.ChangeShapes Go.WideShapes Go.ChangeAt Go.RowKit
open Go.ChangeMaps (open_string shut_string)
set_option maxRecDepth 100000 in
set_option linter.unusedVariables false in
theorem lifted (os : Os) (started : os.Started) (H : Type) (enc : TypeId × Value → H) (F : Stop.Interp) :
    ReturnsInHanded {} Try.checked os 7 .any ((Rows.OpenSpec.upto Rows.fnAppendAllSpec).pre6 enc Try.prog Try.f7 Rows.fnAppendAllUptoRow.domain false) (((Rows.OpenSpec.upto Rows.fnAppendAllSpec).at F).post enc Try.prog Try.f7 false true false false) := by
  refine returnsInHanded_of_cond (C := Try.checked) (s := Rows.OpenSpec.upto Rows.fnAppendAllSpec) (k := Rows.uptoSmall) rfl own started (by kernel_rfl) Try.func7
    (OpenSpec.witness (enc := enc) (C := Try.checked) (s := Rows.OpenSpec.upto Rows.fnAppendAllSpec) (k := Rows.uptoSmall) rfl false ⟨#[], #[.slice none 0 0, .slice none 0 0], []⟩ 8 (by kernel_rfl) (by kernel_rfl) (by kernel_rfl)
      (x := ([.nil, .nil], [], [])) (by kernel_rfl) rfl (by kernel_rfl)) ?_
  intro W base args ds gs before hval0 hW _ hk _
  have hval : ∀ (j : Nat) t v, Try.f7.params[j]? = some t → args[j]? = some v → Value.okWide Try.prog W .any base t v := hval0
  have hW' := hW
  obtain ⟨p, q, hA0, hV, rfl, hfz, hnd⟩ := hW
  have hA : DataW.TrodAll enc Try.prog W 0 (fun _ => true) true Try.f7.params.toList args.toList ds p := hA0
  rw [Try.params7] at hA hval
  obtain ⟨v0, vs0, d0, ds0, p0, q0, hargs, rfl, rfl, h0, r0⟩ := trodAll_cons hA
  obtain ⟨v1, vs1, d1, ds1, p1, q1, rfl, rfl, rfl, h1, r1⟩ := trodAll_cons r0
  obtain ⟨rfl, rfl, rfl⟩ := trodAll_nil r1
  obtain rfl : args = #[v0, v1] := by cases args; simp_all
  obtain ⟨rfl, rfl⟩ := trodVars_none hV
  have k0 := h0
  have lt0 : ∀ x ∈ p0, x.block < W.heap.size := by obtain ⟨m, hm⟩ := k0; exact DataW.trod_lt m _ _ _ hm
  obtain ⟨A0, n0, c0, l0, rfl, e0, g0, m0, u0⟩ := open_by Try.underlying22 Try.underlying5 (by kernel_rfl) (hval 0 22 v0 rfl rfl) h0
  have z0 : c0 ≤ 1048576 := by have := bulk_held u0; have hb := bulk_bound hk; simp only [Rows.uptoBulkAll, List.append_nil] at hb; omega
  have k1 := h1
  have lt1 : ∀ x ∈ p1, x.block < W.heap.size := by obtain ⟨m, hm⟩ := k1; exact DataW.trod_lt m _ _ _ hm
  obtain ⟨A1, n1, c1, zz1, rfl, e1, g1, m1, w1, u1⟩ := open_sl Try.underlying34 Try.underlying21 (by kernel_rfl) (hval 1 34 v1 rfl rfl) h1
  have b1 : ∀ z ∈ zz1, -2147483648 ≤ z ∧ z ≤ 2147483647 := fun z hz => by simpa [Lit.wf, IntKind.min, IntKind.max, IntKind.signed, IntKind.bits] using w1 z hz
  have z1 : c1 ≤ 1048576 := by have := bulk_held u1; have hb := bulk_bound hk; simp only [Rows.uptoBulkAll, List.append_nil] at hb; omega
  have hu : c0 + c1 ≤ 1048576 := by have q0 := bulk_held u0; have q1 := bulk_held u1; have hb := bulk_bound hk; simp only [Rows.uptoBulkAll, List.append_nil] at hb; omega
  clear hA0 hval0
  refine (fnAppendAll_walk A0 n0 c0 l0 A1 n1 c1 zz1 W e0 g0 z0 e1 b1 g1 z1 hu).mono fun e W' ⟨he, bel⟩ => ?_
  subst he
  exact ⟨_, rfl, _, _, _, [], _, [], hW', trodAll_mk1 (shut_bool Try.underlying4 _), (trodAll_cons_mk (Below.trod laidOut (by kernel_rfl) (of_decide_eq_true (by kernel_rfl)) k0 bel.out lt0) (trodAll_cons_mk (Below.trod laidOut (by kernel_rfl) (of_decide_eq_true (by kernel_rfl)) k1 bel.out lt1) trodAll_mk0)), rfl, bel.out.frame _, fun h => by cases h⟩
theorem said : Rows.FnAppendAllUptoSaid :=
  OpenClaim.holds_of_cond 7 Try.f7 rfl rfl rfl rfl rfl rfl rfl ⟨rfl, rfl, rfl, rfl, rfl⟩ rfl rfl rfl rfl rfl (by kernel_rfl) Try.func7 (by kernel_rfl)
    (of_decide_eq_true (by kernel_rfl)) (by unfold Func.isWrapper; first | (rw [if_pos (by decide +kernel)]; kernel_rfl) | (rw [if_neg (by decide +kernel)]; exact ⟨rfl, rfl⟩))
    (fun os started H enc _ F => lifted os started H enc F)
end fnAppendAll
end Go.Proofs.Ytmngajddmgigaaa
