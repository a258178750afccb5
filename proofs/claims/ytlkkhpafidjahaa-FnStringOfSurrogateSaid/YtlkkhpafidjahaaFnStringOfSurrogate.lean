/- FnStringOfSurrogate: surrogate halves that are converted to a string are taken as RuneError. No condition. -/
import Derived.Test.YtlkkhpafidjahaaFrame
import Derived.Test.YtlkkhpafidjahaaText
import Derived.Test.YtlkkhpafidjahaaConv
import Derived.Deep.RegionHeld3
import Derived.IntWalk
namespace Go.Proofs.Ytlkkhpafidjahaa
open Go.RowKit Go.Lib
theorem text_of_one (zs : List Int) (k : Nat) (hk : k < zs.length) : text ((zs.take (k + 1)).drop k) = encodeRune (zs.getD k 0) := by
  have : (zs.take (k + 1)).drop k = [zs.getD k 0] := by
    rw [List.take_succ_eq_append_getElem hk, List.drop_append_of_le_length (by simp; omega), List.drop_of_length_le (by simp; omega)]
    simp [List.getD, List.getElem?_eq_getElem hk]
  rw [this]
  simp [text]
set_option maxHeartbeats 400000 in
theorem fnStringOfSurrogate_walk (A0 : Option Addr) (n0 c0 : Nat) (z0 : List Int) (w : World) (e0 : Sl .i32 w A0 n0 z0) (_b0 : ∀ z ∈ z0, -2147483648 ≤ z ∧ z ≤ 2147483647) (g0 : n0 ≤ c0) (m0 : c0 ≤ 35184372087808) :
    Calls Try.prog 11 #[.slice A0 n0 c0] w fun e w' => e = .returned (.bool true) ∧ Nx w w' := by
  have LX := Lib.hid e0.len
  clear _b0
  go_enter Try.func11, Try.ntmps11
  go_wp2
  go_loopw [3] (fun i wr => ∃ k : Nat, k ≤ n0 ∧ i = .int .i64 k ∧ Nx w wr) (fun i _ => n0 - (intOf i).toNat)
  case atStart => exact ⟨0, Nat.zero_le _, rfl, Nx.refl _⟩
  case round =>
    obtain ⟨k, hk, rfl, hnx⟩ := hrel
    by_cases hlt : k < n0
    · have e1 := e0.next hnx
      obtain ⟨b, off, u, rfl, hb, c1, hu⟩ := e1.at_ hlt
      obtain ⟨E, hE⟩ : ∃ E, Hid (strOf (encodeRune u) = E) := ⟨_, rfl⟩
      have cs := Lib.hid fun w => stringOfRune_any u w
      rw [hE.out] at cs
      have ct := Lib.hid fun W (hW : Nx wr W) => text_any (cutA (some ⟨b, off, none⟩) c0 k) (k + 1 - k) (c0 - k) _ W ((e1.next hW).cut (i := k) (j := k + 1) (by omega) (by omega) g0) (by omega)
      rw [text_of_one z0 k (by rw [LX.out]; exact hlt), hu.out, hE.out, show k + 1 - k = 1 by omega] at ct
      have hcut := fun W => run_cut2 (P := Try.prog) 22 21 Try.underlying22 (fun _ => by kernel_rfl) (some ⟨b, off, none⟩) n0 c0 .i64 .i64 (k : Int) ((k : Int) + 1) k (k + 1) rfl (by omega) (by omega) (by omega) W
      have hwrap : IntKind.i64.wrap ((k : Int) + 1) = (k : Int) + 1 := IntWalk.i64_in _ ⟨by omega, by omega⟩
      go_wp2_with fail
      go_region_held3 (fun w' => Nx wr w' ∧ w'.cell? ⟨b, off + k, none⟩ = some (.int .i32 u)) (first | exact ⟨(Nx.refl _).drew, c1⟩ | exact ⟨hn2, (hn2.cell (p := ⟨b, off + k, none⟩) hb).trans c1⟩) (first | (go_at_call 19; refine (cs.out _).mono ?_; rintro e w' ⟨rfl, rfl⟩) | (go_at_call 16; refine (ct.out _ ((Nx.refl _).drew)).mono ?_; rintro e w2 ⟨rfl, hn2'⟩; have hn2 : Nx wr w2 := ((Nx.refl _).drew).trans hn2'))
      go_wp2_with fail
      go_roundw
      case rel => exact ⟨k + 1, by omega, by go_num, hnx.trans hn2⟩
      case measure => simp [intOf]; omega
    · obtain ⟨E, hE⟩ : ∃ E, Hid (strOf (text z0) = E) := ⟨_, rfl⟩
      have c1 := Lib.hid fun w hx => stringOf_any A0 n0 c0 z0 w hx
      have c2 := Lib.hid fun w hx => text_any A0 n0 c0 z0 w hx (by omega)
      rw [hE.out] at c1 c2
      go_wp2_with fail
      refine (c1.out _ (e0.next hnx)).mono ?_
      rintro e w' ⟨rfl, rfl⟩
      go_wp2_with fail
      refine (c2.out _ (e0.next hnx)).mono ?_
      rintro e w1 ⟨rfl, hn1⟩
      go_wp2_with fail
      go_ret
      exact ⟨ret_bool (by simp), hnx.trans hn1⟩
namespace fnStringOfSurrogate
open Go.ChangeShapes Go.WideShapes Go.ChangeAt Go.RowKit
open Go.ChangeMaps (open_string shut_string)
set_option maxRecDepth 100000 in
set_option linter.unusedVariables false in
theorem lifted (os : Os) (started : os.Started) (H : Type) (enc : TypeId × Value → H) :
    ReturnsInHanded {} Try.checked os 11 .any (Rows.fnStringOfSurrogateSpec.pre6 enc Try.prog Try.f11 Rows.fnStringOfSurrogateRow.domain false) (Rows.fnStringOfSurrogateSpec.post enc Try.prog Try.f11 false true false false) := by
  refine returnsInHanded_of_change_sized (C := Try.checked) own started (by kernel_rfl) Try.func11
    (ChangeSpec.witness6 (enc := enc) (C := Try.checked) false ⟨#[], #[.slice none 0 0], []⟩ 8 (by kernel_rfl) (by kernel_rfl) (by kernel_rfl) (by kernel_rfl)) ?_
  intro W base args ds gs before hval0 hW hcnd hsz0 _
  have hsz : (DataW.weightsEach Try.prog (Try.f11.params.toList ++ Rows.fnStringOfSurrogateSpec.plain.varTypes Try.prog) (ds ++ gs)).all (· ≤ reachBytes) = true := hsz0
  rw [Try.params11] at hsz
  have hval : ∀ (j : Nat) t v, Try.f11.params[j]? = some t → args[j]? = some v → Value.okWide Try.prog W .any base t v := hval0
  have hW' := hW
  obtain ⟨p, q, hA0, hV, rfl, hfz, hnd⟩ := hW
  have hA : DataW.TrodAll enc Try.prog W 0 (fun _ => true) true Try.f11.params.toList args.toList ds p := hA0
  rw [Try.params11] at hA hval
  obtain ⟨v0, vs0, d0, ds0, p0, q0, hargs, rfl, rfl, h0, r0⟩ := trodAll_cons hA
  obtain ⟨rfl, rfl, rfl⟩ := trodAll_nil r0
  obtain rfl : args = #[v0] := by cases args; simp_all
  obtain ⟨rfl, rfl⟩ := trodVars_none hV
  have k0 := h0
  have lt0 : ∀ x ∈ p0, x.block < W.heap.size := by obtain ⟨m, hm⟩ := k0; exact DataW.trod_lt m _ _ _ hm
  obtain ⟨A0, n0, c0, zz0, rfl, e0, g0, m0, w0, u0⟩ := open_sl Try.underlying22 Try.underlying21 (by kernel_rfl) (hval 0 22 v0 rfl rfl) h0
  have b0 : ∀ z ∈ zz0, -2147483648 ≤ z ∧ z ≤ 2147483647 := fun z hz => by simpa [Lit.wf, IntKind.min, IntKind.max, IntKind.signed, IntKind.bits] using w0 z hz
  have z0 : c0 ≤ 35184372087808 := by have := held_size (j := 0) (t := 22) (b := 4) hsz (by kernel_rfl) (by rfl) rfl Try.underlying22 u0; omega
  clear hA0 hval0
  refine (fnStringOfSurrogate_walk A0 n0 c0 zz0 W e0 b0 g0 z0).mono fun e W' ⟨he, bel⟩ => ?_
  subst he
  exact ⟨_, rfl, _, _, _, [], _, [], hW', trodAll_mk1 (shut_bool Try.underlying4 _), (trodAll_cons_mk (Below.trod laidOut (by kernel_rfl) (of_decide_eq_true (by kernel_rfl)) k0 bel.out lt0) trodAll_mk0), rfl, bel.out.frame _, fun h => by cases h⟩
theorem said : Rows.FnStringOfSurrogateSaid :=
  OpenClaim.holds_of_wide 11 Try.f11 rfl rfl rfl rfl rfl rfl rfl ⟨rfl, rfl, rfl, rfl, rfl⟩ rfl rfl rfl rfl rfl (by kernel_rfl) Try.func11 (by kernel_rfl)
    (of_decide_eq_true (by kernel_rfl)) (by unfold Func.isWrapper; first | (rw [if_pos (by decide +kernel)]; kernel_rfl) | (rw [if_neg (by decide +kernel)]; exact ⟨rfl, rfl⟩))
    (fun os started H enc _ => lifted os started H enc)
end fnStringOfSurrogate
end Go.Proofs.Ytlkkhpafidjahaa
