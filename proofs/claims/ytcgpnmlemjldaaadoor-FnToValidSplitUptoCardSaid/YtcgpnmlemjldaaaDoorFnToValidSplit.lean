/- FnToValidSplit: runs of bytes that are no encodings are replaced once, also where RuneError stands beside them as a rune of its own. The condition: what is read is of bulk at most 1048576; the tables are those that the program lays. -/
import Derived.Test.YtcgpnmlemjldaaaDoorFrame
import Derived.Test.YtcgpnmlemjldaaaDoorToValid
import Derived.Test.YtcgpnmlemjldaaaDoorText
namespace Go.Proofs.YtcgpnmlemjldaaaDoor
open Go.RowKit Go.Lib
set_option linter.unusedVariables false
def neverB (b : UInt8) : Prop := b.toNat = 192 ∨ b.toNat = 193 ∨ 245 ≤ b.toNat
theorem never_snoc {l : List UInt8} {k : Nat} (hk : k < l.length) (h : ∀ b ∈ l.take k, neverB b) (hg : neverB (l.getD k 0)) : ∀ b ∈ l.take (k + 1), neverB b := by
  intro z hz
  rw [List.take_succ_eq_append_getElem hk, List.mem_append] at hz
  rcases hz with hz | hz
  · exact h z hz
  · simp only [List.mem_singleton] at hz
    subst hz
    simpa [List.getD, List.getElem?_eq_getElem hk] using hg
theorem cat_data (a b : ByteArray) : (a ++ b).data.toList = a.data.toList ++ b.data.toList := by rw [ByteArray.data_append, Array.toList_append]
theorem cat_str (a b : List UInt8) : strOf a ++ strOf b = strOf (a ++ b) := by unfold strOf; rw [ByteArray.mk_append_mk]
set_option maxRecDepth 100000 in
set_option maxHeartbeats 4000000 in
theorem fnToValidSplit_walk (A0 : Option Addr) (n0 c0 : Nat) (z0 : List Int) (A1 : Option Addr) (n1 c1 : Nat) (l1 : List UInt8) (A2 : Option Addr) (n2 c2 : Nat) (z2 : List Int) (s3 : ByteArray) (w : World) (hT : Tabs w) (e0 : Sl .i32 w A0 n0 z0) (_b0 : ∀ z ∈ z0, -2147483648 ≤ z ∧ z ≤ 2147483647) (g0 : n0 ≤ c0) (m0 : c0 ≤ 1048576) (e1 : By w A1 n1 l1) (g1 : n1 ≤ c1) (m1 : c1 ≤ 1048576) (e2 : Sl .i32 w A2 n2 z2) (_b2 : ∀ z ∈ z2, -2147483648 ≤ z ∧ z ≤ 2147483647) (g2 : n2 ≤ c2) (m2 : c2 ≤ 1048576) (m3 : s3.size ≤ 1048576) (_hu : c0 + c1 + c2 + s3.size ≤ 1048576) :
    Calls Tryd.prog 10 #[.slice A0 n0 c0, .slice A1 n1 c1, .slice A2 n2 c2, .string s3] w fun e w' => e = .returned (.bool true) ∧ Nx w w' := by
  have LX := Lib.hid e0.len
  have LY := Lib.hid e1.len
  have LZ := Lib.hid e2.len
  clear _b0 _b2
  go_enter Tryd.func10, Tryd.ntmps10
  go_wp2
  go_loop [9] (fun i => ∃ kk : Nat, kk ≤ n0 ∧ i = .int .i64 kk ∧ Hid (∀ z ∈ z0.take kk, goodB z = true)) (fun i => n0 - (RowKit.intOf i).toNat)
  case atStart => exact ⟨0, Nat.zero_le _, rfl, by simp [Hid]⟩
  case round =>
    obtain ⟨ka, hk, rfl, hgs⟩ := hrel
    by_cases hlt : ka < n0
    · obtain ⟨b, off, u, rfl, hb, q1, hu⟩ := e0.at_ hlt
      by_cases hg : goodB u = true
      · have hs : Hid (∀ z ∈ z0.take (ka + 1), goodB z = true) := good_snoc (by rw [LX.out]; exact hlt) hgs.out (by rw [hu.out]; exact hg)
        go_wp2_with (go_at_call 21; refine (good_any _ _).mono ?_; rintro e w' ⟨rfl, rfl⟩)
        go_round
        case rel => exact ⟨ka + 1, by omega, by go_num, hs⟩
        case measure => simp [RowKit.intOf]; omega
      · have hg' : goodB u = false := by simpa using hg
        clear hg
        go_wp2_with (go_at_call 21; refine (good_any _ _).mono ?_; rintro e w' ⟨rfl, rfl⟩)
        go_ret
        exact ⟨rfl, Nx.refl _⟩
    · have hall : Hid (∀ z ∈ z0, goodB z = true) := good_all LX.out (by omega) hgs.out
      clear hgs
      obtain rfl : ka = n0 := by omega
      go_wp2_with fail
      go_loop [10] (fun i => ∃ kk : Nat, kk ≤ n2 ∧ i = .int .i64 kk ∧ Hid (∀ z ∈ z2.take kk, goodB z = true)) (fun i => n2 - (RowKit.intOf i).toNat)
      case atStart => exact ⟨0, Nat.zero_le _, rfl, by simp [Hid]⟩
      case round =>
        obtain ⟨km, hk, rfl, hgs⟩ := hrel
        by_cases hlt : km < n2
        · obtain ⟨b, off, u, rfl, hb, q1, hu⟩ := e2.at_ hlt
          by_cases hg : goodB u = true
          · have hs : Hid (∀ z ∈ z2.take (km + 1), goodB z = true) := good_snoc (by rw [LZ.out]; exact hlt) hgs.out (by rw [hu.out]; exact hg)
            go_wp2_with (go_at_call 21; refine (good_any _ _).mono ?_; rintro e w' ⟨rfl, rfl⟩)
            go_round
            case rel => exact ⟨km + 1, by omega, by go_num, hs⟩
            case measure => simp [RowKit.intOf]; omega
          · have hg' : goodB u = false := by simpa using hg
            clear hg
            go_wp2_with (go_at_call 21; refine (good_any _ _).mono ?_; rintro e w' ⟨rfl, rfl⟩)
            go_ret
            exact ⟨rfl, Nx.refl _⟩
        · have hallm : Hid (∀ z ∈ z2, goodB z = true) := good_all LZ.out (by omega) hgs.out
          clear hgs
          obtain rfl : km = n2 := by omega
          go_wp2_with fail
          go_loop [11] (fun i => ∃ k : Nat, k ≤ n1 ∧ i = .int .i64 k ∧ Hid (∀ z ∈ l1.take k, neverB z)) (fun i => n1 - (RowKit.intOf i).toNat)
          case atStart => exact ⟨0, Nat.zero_le _, rfl, by simp [Hid]⟩
          case round =>
            obtain ⟨k, hk, rfl, hgs⟩ := hrel
            by_cases hlt : k < n1
            · obtain ⟨b, off, u, rfl, hb, q1, u0, u1, hu⟩ := e1.at_ hlt
              by_cases hc : u = 192 ∨ u = 193 ∨ 245 ≤ u
              · have hs : Hid (∀ z ∈ l1.take (k + 1), neverB z) := never_snoc (by rw [LY.out]; exact hlt) hgs.out (by unfold neverB; have := hu.out; omega)
                rcases hc with hc | hc | hc
                · have z1 : (u != 192) = false := by simp; omega
                  clear hc
                  go_wp2_with fail
                  go_round
                  case rel => exact ⟨k + 1, by omega, by go_num, hs⟩
                  case measure => simp [RowKit.intOf]; omega
                · have z1 : (u != 192) = true := by simp; omega
                  have z2 : (u != 193) = false := by simp; omega
                  clear hc
                  go_wp2_with fail
                  go_round
                  case rel => exact ⟨k + 1, by omega, by go_num, hs⟩
                  case measure => simp [RowKit.intOf]; omega
                · have z1 : (u != 192) = true := by simp; omega
                  have z2 : (u != 193) = true := by simp; omega
                  have z3 : decide (u < 245) = false := by simp; omega
                  clear hc
                  go_wp2_with fail
                  go_round
                  case rel => exact ⟨k + 1, by omega, by go_num, hs⟩
                  case measure => simp [RowKit.intOf]; omega
              · have z1 : (u != 192) = true := by simp; omega
                have z2 : (u != 193) = true := by simp; omega
                have z3 : u < 245 := by omega
                clear hc
                go_wp2_with fail
                go_ret
                exact ⟨rfl, Nx.refl _⟩
            · have hnev : Hid (∀ z ∈ l1, neverB z) := by have := hgs.out; rwa [List.take_of_length_le (by rw [LY.out]; omega)] at this
              clear hgs
              obtain rfl : k = n1 := by omega
              obtain ⟨X, hX⟩ : ∃ X, Hid (strOf (text z0) = X) := ⟨_, rfl⟩
              have hXs : X.size ≤ 4194304 := by have := (text_length z0).2; rw [← hX.out, strOf_size]; rw [LX.out] at this; omega
              obtain ⟨Y, hY⟩ : ∃ X, Hid (strOf (text z2) = X) := ⟨_, rfl⟩
              have hYs : Y.size ≤ 4194304 := by have := (text_length z2).2; rw [← hY.out, strOf_size]; rw [LZ.out] at this; omega
              obtain ⟨Z, hZ⟩ : ∃ X, Hid (strOf l1 = X) := ⟨_, rfl⟩
              have hZs : Z.size ≤ 1048576 := by rw [← hZ.out, strOf_size, LY.out]; omega
              have hsrc : Hid ((X ++ Z ++ Y).data.toList = text z0 ++ (l1 ++ text z2)) := by show _ = _; rw [cat_data, cat_data, ← hX.out, ← hY.out, ← hZ.out, strOf_data, strOf_data, strOf_data, List.append_assoc]
              have hss : (X ++ Z ++ Y).size = X.size + Z.size + Y.size := by rw [ByteArray.size_append, ByteArray.size_append]
              have htv : toV s3.data.toList false (text z0 ++ (l1 ++ text z2)) = text z0 ++ ((if l1.isEmpty then [] else s3.data.toList) ++ text z2) := by
                rw [toV_text _ z0 hall.out, toV_never _ l1 false _ hnev.out, toV_text' _ _ z2 hallm.out]
                simp
              have hlen : (text z0 ++ ((if l1.isEmpty then [] else s3.data.toList) ++ text z2)).length ≤ 140737488355328 := by
                have h1 := (text_length z0).2
                have h2 := (text_length z2).2
                rw [LX.out] at h1
                rw [LZ.out] at h2
                have h3 : (if l1.isEmpty then [] else s3.data.toList).length ≤ s3.size := by
                  split
                  · simp
                  · rw [size_list]; exact Nat.le_refl _
                rw [List.length_append, List.length_append]
                omega
              have cv := Lib.hid fun W (h : Tabs W) => toValid_any (X ++ Z ++ Y) s3 W h (by omega) (by rw [hsrc.out, htv]; exact hlen)
              rw [hsrc.out, htv] at cv
              have ct := Lib.hid fun W hx => text_any A0 ka c0 z0 W hx (by omega)
              rw [hX.out] at ct
              have cu := Lib.hid fun W hx => text_any A2 km c2 z2 W hx (by omega)
              rw [hY.out] at cu
              have tb := Lib.hid fun W h => run_bytes_str (P := Tryd.prog) 22 9 5 Tryd.underlying22 Tryd.underlying5 Tryd.underlying9 W A1 k c1 l1 h
              rw [hZ.out] at tb
              clear htv hlen
              go_wp2_with fail
              refine (ct.out _ e0).mono ?_
              rintro e w1 ⟨rfl, x1⟩
              go_wp2_with fail
              refine (cu.out _ (e2.next x1)).mono ?_
              rintro e w2 ⟨rfl, x2⟩
              have y2 := x1.trans x2
              have t2 := tb.out w2 (e1.next y2)
              by_cases h0 : k = 0
              · have z0' : decide ((0 : Int) < (k : Int)) = false := by simp <;> omega
                have hl1 : l1 = [] := List.eq_nil_of_length_eq_zero (by rw [LY.out]; exact h0)
                have hres : Hid (strOf (text z0 ++ ((if l1.isEmpty then [] else s3.data.toList) ++ text z2)) = X ++ Y) := by show _ = _; rw [hl1, ← hX.out, ← hY.out, cat_str]; rfl
                rw [hres.out] at cv
                have heq : ((X ++ Y).toList == (X ++ Y).toList) = true := by simp
                clear hl1 z0'
                subst h0
                go_wp2_with fail
                refine (cv.out _ (hT.next y2)).mono ?_
                rintro e w3 ⟨rfl, x3⟩
                go_wp2_with fail
                go_ret
                exact ⟨rfl, y2.trans x3⟩
              · have z0' : (0 : Int) < (k : Int) := by omega
                have hl1 : l1.isEmpty = false := by
                  cases l1 with
                  | nil => have := LY.out; simp at this; omega
                  | cons b r => rfl
                have hres : Hid (strOf (text z0 ++ ((if l1.isEmpty then [] else s3.data.toList) ++ text z2)) = X ++ s3 ++ Y) := by
                  show _ = _
                  rw [hl1, ← hX.out, ← hY.out, if_neg (by simp), ← List.append_assoc, ← cat_str, ← cat_str, strOf_list]
                rw [hres.out] at cv
                have heq : ((X ++ s3 ++ Y).toList == (X ++ s3 ++ Y).toList) = true := by simp
                clear h0 hl1
                go_wp2_with fail
                refine (cv.out _ (hT.next y2)).mono ?_
                rintro e w3 ⟨rfl, x3⟩
                go_wp2_with fail
                go_ret
                exact ⟨rfl, y2.trans x3⟩
namespace fnToValidSplit
open Go.ChangeShapes Go.WideShapes Go.ChangeAt Go.RowKit
open Go.ChangeMaps (open_string shut_string)
set_option maxRecDepth 100000 in
set_option linter.unusedVariables false in
theorem laid_met (os : Os) : laidMet Tryd.prog Rows.fnToValidSplitUptoRow.laid ((laidWorld os).forCall (fun _ _ => 0) ⟨#[], #[.slice none 0 0, .slice none 0 0, .slice none 0 0, .string ⟨#[]⟩], []⟩).memory :=
  laidMet_of_run' 8 (by kernel_rfl) (by kernel_rfl)
theorem reads (os : Os) {H : Type} (enc : TypeId × Value → H) : ∃ places, DataW.whole enc Tryd.prog ((laidWorld os).forCall (fun _ _ => 0) ⟨#[], #[.slice none 0 0, .slice none 0 0, .slice none 0 0, .string ⟨#[]⟩], []⟩).memory Tryd.f10.params.toList Rows.fnToValidSplitSpec.vars false (#[.slice none 0 0, .slice none 0 0, .slice none 0 0, .string ⟨#[]⟩] : Array Value).toList 8 = some ([.nil, .nil, .nil, .lit (.string [])], [], places) :=
  ⟨[], by kernel_rfl⟩
set_option maxRecDepth 100000 in
set_option linter.unusedVariables false in
theorem lifted (os : Os) (started : os.Started) (H : Type) (enc : TypeId × Value → H) (F : Stop.Interp) :
    ReturnsInHanded {} Tryd.checked os 10 .any ((Rows.OpenSpec.upto Rows.fnToValidSplitSpec).preRow enc Tryd.prog Tryd.f10 Rows.fnToValidSplitUptoRow.domain false Rows.fnToValidSplitUptoRow.laid) (((Rows.OpenSpec.upto Rows.fnToValidSplitSpec).at F).post enc Tryd.prog Tryd.f10 false true false false) := by
  obtain ⟨places, hx⟩ := reads os enc
  refine returnsInHanded_of_row (C := Tryd.checked) (s := (Rows.OpenSpec.upto Rows.fnToValidSplitSpec)) own started (by kernel_rfl) Tryd.func10
    (witness_row_at (enc := enc) (C := Tryd.checked) false (laidWorld os) #[.slice none 0 0, .slice none 0 0, .slice none 0 0, .string ⟨#[]⟩] rfl (by kernel_rfl) (by kernel_rfl) (by kernel_rfl)
      (OpenSpec.preRow_of_cond 8 hx (by kernel_rfl) (fun k hk => by cases hk; kernel_rfl) (by kernel_rfl) (laid_met os))) ?_
  intro W base args ds gs before hval0 hW _ hkk hsz0 hL _ _
  have hk := hkk _ rfl
  have hval : ∀ (j : Nat) t v, Tryd.f10.params[j]? = some t → args[j]? = some v → Value.okWide Tryd.prog W .any base t v := hval0
  have hW' := hW
  obtain ⟨p, q, hA0, hV, rfl, hfz, hnd⟩ := hW
  have hA : DataW.TrodAll enc Tryd.prog W 0 (fun _ => true) true Tryd.f10.params.toList args.toList ds p := hA0
  rw [Tryd.params10] at hA hval
  obtain ⟨v0, vs0, d0, ds0, p0, q0, hargs, rfl, rfl, h0, r0⟩ := trodAll_cons hA
  obtain ⟨v1, vs1, d1, ds1, p1, q1, rfl, rfl, rfl, h1, r1⟩ := trodAll_cons r0
  obtain ⟨v2, vs2, d2, ds2, p2, q2, rfl, rfl, rfl, h2, r2⟩ := trodAll_cons r1
  obtain ⟨v3, vs3, d3, ds3, p3, q3, rfl, rfl, rfl, h3, r3⟩ := trodAll_cons r2
  obtain ⟨rfl, rfl, rfl⟩ := trodAll_nil r3
  obtain rfl : args = #[v0, v1, v2, v3] := by cases args; simp_all
  obtain ⟨rfl, rfl⟩ := trodVars_none hV
  have k0 := h0
  have lt0 : ∀ x ∈ p0, x.block < W.heap.size := by obtain ⟨m, hm⟩ := k0; exact DataW.trod_lt m _ _ _ hm
  obtain ⟨A0, n0, c0, zz0, rfl, e0, g0, m0, w0, u0⟩ := open_sl Tryd.underlying39 Tryd.underlying21 (by kernel_rfl) (hval 0 39 v0 rfl rfl) h0
  have b0 : ∀ z ∈ zz0, -2147483648 ≤ z ∧ z ≤ 2147483647 := fun z hz => by simpa [Lit.wf, IntKind.min, IntKind.max, IntKind.signed, IntKind.bits] using w0 z hz
  have z0 : c0 ≤ 1048576 := by have := bulk_held u0; have hb := bulk_bound hk; simp only [Rows.uptoBulkAll, List.append_nil] at hb; omega
  have k1 := h1
  have lt1 : ∀ x ∈ p1, x.block < W.heap.size := by obtain ⟨m, hm⟩ := k1; exact DataW.trod_lt m _ _ _ hm
  obtain ⟨A1, n1, c1, l1, rfl, e1, g1, m1, u1⟩ := open_by Tryd.underlying22 Tryd.underlying5 (by kernel_rfl) (hval 1 22 v1 rfl rfl) h1
  have z1 : c1 ≤ 1048576 := by have := bulk_held u1; have hb := bulk_bound hk; simp only [Rows.uptoBulkAll, List.append_nil] at hb; omega
  have k2 := h2
  have lt2 : ∀ x ∈ p2, x.block < W.heap.size := by obtain ⟨m, hm⟩ := k2; exact DataW.trod_lt m _ _ _ hm
  obtain ⟨A2, n2, c2, zz2, rfl, e2, g2, m2, w2, u2⟩ := open_sl Tryd.underlying39 Tryd.underlying21 (by kernel_rfl) (hval 2 39 v2 rfl rfl) h2
  have b2 : ∀ z ∈ zz2, -2147483648 ≤ z ∧ z ≤ 2147483647 := fun z hz => by simpa [Lit.wf, IntKind.min, IntKind.max, IntKind.signed, IntKind.bits] using w2 z hz
  have z2 : c2 ≤ 1048576 := by have := bulk_held u2; have hb := bulk_bound hk; simp only [Rows.uptoBulkAll, List.append_nil] at hb; omega
  have k3 := h3
  have lt3 : ∀ x ∈ p3, x.block < W.heap.size := by obtain ⟨m, hm⟩ := k3; exact DataW.trod_lt m _ _ _ hm
  obtain ⟨s3, rfl, rfl, rfl, w3⟩ := open_string Tryd.underlying9 (hval 3 9 v3 rfl rfl) h3
  have z3 : s3.size ≤ 1048576 := by have := bulk_str (H := H) s3; have hb := bulk_bound hk; simp only [Rows.uptoBulkAll, List.append_nil] at hb; omega
  have hu : c0 + c1 + c2 + s3.size ≤ 1048576 := by have q0 := bulk_held u0; have q1 := bulk_held u1; have q2 := bulk_held u2; have q3 := bulk_str (H := H) s3; have hb := bulk_bound hk; simp only [Rows.uptoBulkAll, List.append_nil] at hb; omega
  clear hA0 hval0
  refine (fnToValidSplit_walk A0 n0 c0 zz0 A1 n1 c1 l1 A2 n2 c2 zz2 s3 W (tabs hL) e0 b0 g0 z0 e1 g1 z1 e2 b2 g2 z2 z3 hu).mono fun e W' ⟨he, bel⟩ => ?_
  subst he
  exact ⟨_, rfl, _, _, _, [], _, [], hW', trodAll_mk1 (shut_bool Tryd.underlying4 _), (trodAll_cons_mk (Below.trod laidOut (by kernel_rfl) (of_decide_eq_true (by kernel_rfl)) k0 bel.out lt0) (trodAll_cons_mk (Below.trod laidOut (by kernel_rfl) (of_decide_eq_true (by kernel_rfl)) k1 bel.out lt1) (trodAll_cons_mk (Below.trod laidOut (by kernel_rfl) (of_decide_eq_true (by kernel_rfl)) k2 bel.out lt2) (trodAll_cons_mk (shut_string Tryd.underlying9 w3) trodAll_mk0)))), rfl, bel.out.frame _, fun h => by cases h⟩
theorem row : Rows.FnToValidSplitUptoSaid :=
  OpenClaim.holds_of_cond 10 Tryd.f10 rfl rfl rfl rfl rfl rfl rfl ⟨rfl, rfl, rfl, rfl, rfl⟩ rfl rfl rfl rfl rfl (by kernel_rfl) Tryd.func10 (by kernel_rfl)
    (of_decide_eq_true (by kernel_rfl)) (by unfold Func.isWrapper; first | (rw [if_pos (by decide +kernel)]; kernel_rfl) | (rw [if_neg (by decide +kernel)]; exact ⟨rfl, rfl⟩))
    (fun os started H enc _ F => by rw [OpenClaim.pre_eq_preRow]; exact lifted os started H enc F)
theorem plain (f : FuncId) (fn : Func) (hf : Tryd.pinned.checked.prog.funcNamed Rows.fnToValidSplitUptoRow.func = some f) (hfn : Tryd.pinned.checked.prog.funcs[f]? = some fn) :
    false = Tryd.pinned.checked.prog.looks [] ∧ ∀ (j : Nat) t, fn.params[j]? = some t → Tryd.pinned.checked.prog.wantsStandIn t = false := by
  obtain rfl : f = 10 := Option.some.inj ((show Tryd.prog.funcNamed Rows.fnToValidSplitUptoRow.func = some 10 by kernel_rfl).symm.trans hf) |>.symm
  obtain rfl : fn = Tryd.f10 := (Option.some.inj (Tryd.func10.symm.trans hfn)).symm
  refine ⟨by kernel_rfl, fun j t ht => ?_⟩
  rw [Tryd.params10] at ht
  have hm := Array.mem_of_getElem? ht
  have hor : t = 9 ∨ t = 22 ∨ t = 39 := by simp at hm; first | exact hm.symm | (rcases hm with h | h <;> simp [h]) | (rcases hm with h | h | h <;> simp [h]) | (rcases hm with h | h | h | h <;> simp [h])
  rcases hor with rfl | rfl | rfl
  · exact (show Tryd.prog.wantsStandIn 9 = false by kernel_rfl)
  · exact (show Tryd.prog.wantsStandIn 22 = false by kernel_rfl)
  · exact (show Tryd.prog.wantsStandIn 39 = false by kernel_rfl)
theorem said : Rows.FnToValidSplitUptoCardSaid :=
  Claim7.holds_tied_plain_at .later [] _ _ _ _ row (fun _ h => by cases h) (by kernel_rfl) (fun _ h => by cases h) fnToValidSplitUpto_row_tie rfl ⟨rfl, rfl⟩ (by kernel_rfl) rfl plain (by kernel_rfl)
end fnToValidSplit
end Go.Proofs.YtcgpnmlemjldaaaDoor
