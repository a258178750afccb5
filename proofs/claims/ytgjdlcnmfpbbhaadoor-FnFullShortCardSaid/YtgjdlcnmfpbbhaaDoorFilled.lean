/- Contracts: spec.Formed and spec.Filled. -/
import Derived.Test.YtgjdlcnmfpbbhaaDoorPlainD
import Derived.Test.YtgjdlcnmfpbbhaaDoorOwn
import Derived.Test.YtgjdlcnmfpbbhaaDoorRows
import Derived.Deep.DeepMust
namespace Go.Proofs.YtgjdlcnmfpbbhaaDoor
open Go.RowKit Go.Lib
set_option linter.unusedVariables false
def slLen : Value → Nat
  | .slice _ n _ => n
  | _ => 0
theorem fill_info : (Tryd.prog.info? 5).map (fun i => (i.zero, i.size, i.bytes)) = some (some (.int .u8 0), 1, 1) := by kernel_rfl
theorem rep_snoc (l : List UInt8) (k : Nat) (b : UInt8) (z : Int) (hz : z = (b.toNat : Int)) : nums (l ++ List.replicate k b) ++ [z] = nums (l ++ List.replicate (k + 1) b) := by
  rw [List.replicate_succ', ← List.append_assoc, nums_append (l ++ List.replicate k b) [b], hz]
  rfl
set_option maxHeartbeats 1000000 in
theorem filled_any (A : Option Addr) (n c : Nat) (l : List UInt8) (m : Nat) (b : UInt8) (z : Int) (hz : Hid (z = (b.toNat : Int))) (w : World) (hl : By w A n l) (hn : n ≤ 4) (hm : m ≤ 4) :
    Calls Tryd.prog 49 #[.slice A n c, .int .i64 (m : Int), .int .u8 z] w (NewS .u8 5 (nums (fill l m b)) w) := by
  obtain ⟨i0, hi0, hz0, hz1, hz2⟩ := info_parts fill_info
  have LX := Lib.hid hl.len
  have o1 : Own .u8 5 w.heap.size (w.alloc (.cells #[] 5)) (some ⟨w.heap.size, 0, none⟩) 0 0 [] := Own.new .u8 _ w.heap.size w (Nat.le_refl _) [] _ 0 rfl rfl (by simp [maxLen])
  have hx1 : Nx w (w.alloc (.cells #[] 5)) := (Nx.refl w).alloc _
  have f0 := hl.next hx1
  go_enter Tryd.func49, Tryd.ntmps49
  go_wp2_with (at_builtin; have _t := o1; go_must (refine wpList_append_sl _ rfl (.tmp 8) (.tmp 9) _ rfl w.heap.size 5 i0 _ 1 Tryd.underlying22 hi0 hz0 hz1 hz2 rfl _ 0 0 [] rfl o1 A n c (nums l) rfl f0 (by simp only [maxLen]; omega) (by omega) hx1.size ?_); intro B1 m1' d1 w2 q1 hg1 hat1; have hx2 := hx1.app o1 hg1; have hm1 : m1' = n := (q1.len.trans ((nums_length l).trans LX.out)); rw [List.nil_append] at q1; clear _t o1 hx1 f0 hg1 hat1)
  subst hm1
  go_loopw [7] (fun v wr => ∃ (k : Nat) (A' : Option Addr) (c' : Nat), v = .slice A' (m1' + k) c' ∧ k ≤ m - m1' ∧ Own .u8 5 w.heap.size wr A' (m1' + k) c' (nums (l ++ List.replicate k b)) ∧ Nx w wr) (fun v _ => m - slLen v)
  case atStart => exact ⟨0, B1, d1, rfl, Nat.zero_le _, by simpa using q1, hx2⟩
  case round =>
    obtain ⟨k, A', c', rfl, hk, ho, hnx⟩ := hrel
    by_cases hlt : m1' + k < m
    · have hs := Lib.hid (rep_snoc l k b z hz.out)
      go_wp2_with (at_builtin; have _t := ho; go_must (refine wpList_append_sl _ rfl (.tmp 15) (.tmp 17) _ rfl w.heap.size 5 i0 _ 1 Tryd.underlying22 hi0 hz0 hz1 hz2 rfl A' (m1' + k) c' _ rfl (kept_alloc ho _) _ 1 1 [z] rfl (one_sl .u8 _ _ _) (by simp only [maxLen]; omega) (by omega) (hnx.alloc _).size ?_); intro B2 m2 d2 w3 r2 hg2 hat2; have hx3 := (hnx.alloc _).app (kept_alloc ho _) hg2; rw [hs.out] at r2; have hm2 : m2 = m1' + (k + 1) := (by have := r2.len; rw [nums_length, List.length_append, List.length_replicate, LX.out] at this; exact this); clear _t ho hg2 hat2)
      subst hm2
      go_roundw
      case rel => exact ⟨k + 1, B2, d2, rfl, by omega, r2, hx3⟩
      case measure => simp [slLen]; omega
    · have hf : Hid (nums (l ++ List.replicate k b) = nums (fill l m b)) := by
        show _ = _
        unfold fill
        rw [LX.out, show k = m - m1' by omega]
      rw [hf.out] at ho
      go_wp2_with fail
      go_ret
      exact ⟨_, _, _, rfl, ho, hnx⟩
/-! ### Formed -/
theorem conts_snoc (l : List UInt8) (k : Nat) (h1 : 1 ≤ k) (hk : k < l.length) (h : ((l.take k).drop 1).all (fun b => contN b.toNat) = true) (hc : contN (l.getD k 0).toNat = true) : ((l.take (k + 1)).drop 1).all (fun b => contN b.toNat) = true := by
  rw [List.take_succ_eq_append_getElem hk, List.drop_append_of_le_length (by rw [List.length_take]; omega), List.all_append, h]
  simp only [List.getD, List.getElem?_eq_getElem hk, Option.getD_some] at hc
  simp [hc]
theorem conts_not (l : List UInt8) (k : Nat) (h1 : 1 ≤ k) (hk : k < l.length) (hc : contN (l.getD k 0).toNat = false) : (l.drop 1).all (fun b => contN b.toNat) = false := by
  rw [List.all_eq_false]
  refine ⟨l.getD k 0, ?_, by rw [hc]; exact Bool.false_ne_true⟩
  have : (l.drop 1)[k - 1]? = some (l.getD k 0) := by
    rw [List.getElem?_drop, show 1 + (k - 1) = k by omega, List.getElem?_eq_getElem hk]
    simp [List.getD, List.getElem?_eq_getElem hk]
  exact List.mem_of_getElem? this
theorem formed_lo {l : List UInt8} {m : Nat} {u : Int} (hu : ((l.getD 0 0).toNat : Int) = u) (h : u < (if m = 2 then 192 else if m = 3 then 224 else 240 : Nat) ∨ ((if m = 2 then 224 else if m = 3 then 240 else 248 : Nat) : Int) ≤ u) : formedB l m = false := by
  unfold formedB
  rw [Bool.and_eq_false_iff]
  left
  rw [decide_eq_false_iff_not]
  omega
theorem formed_eq {l : List UInt8} {m : Nat} {u : Int} (hu : ((l.getD 0 0).toNat : Int) = u) (h : ((if m = 2 then 192 else if m = 3 then 224 else 240 : Nat) : Int) ≤ u ∧ u < (if m = 2 then 224 else if m = 3 then 240 else 248 : Nat)) : formedB l m = (l.drop 1).all (fun b => contN b.toNat) := by
  unfold formedB
  rw [decide_eq_true (by omega), Bool.true_and]
set_option maxHeartbeats 2000000 in
theorem formed_any (A : Option Addr) (n c : Nat) (l : List UInt8) (m : Nat) (w : World) (hl : By w A n l) (h1 : 1 ≤ n) (hn : n ≤ 9223372036854775806) (hm : m = 2 ∨ m = 3 ∨ m = 4) :
    Calls Tryd.prog 47 #[.slice A n c, .int .i64 (m : Int)] w fun e w' => e = .returned (.bool (formedB l m)) ∧ Nx w w' := by
  have LX := Lib.hid hl.len
  obtain ⟨b, off, rfl, hb, hc⟩ := hl.open_ (by omega)
  obtain ⟨u, u0, u1, hu⟩ : ∃ v : Int, 0 ≤ v ∧ v < 256 ∧ Hid (((l.getD 0 0).toNat : Int) = v) := ⟨_, by omega, by have := (l.getD 0 0).toNat_lt; omega, rfl⟩
  have q0 := hc 0 (by omega)
  rw [hu.out, Nat.add_zero] at q0
  have hcell := Lib.hid hc
  have h0i : (0 : Int) < (n : Int) := by omega
  clear hc hl
  rcases hm with rfl | rfl | rfl
  · by_cases hlo : u < 192
    · rw [formed_lo (m := 2) hu.out (Or.inl (by simpa using hlo))]
      go_enter Tryd.func47, Tryd.ntmps47
      go_wp2_with fail
      go_ret
      exact ⟨rfl, ((Nx.refl _).alloc _).alloc _⟩
    · by_cases hhi : 224 ≤ u
      · rw [formed_lo (m := 2) hu.out (Or.inr (by simpa using hhi))]
        have hhz : (32 : Int) ≤ u - 192 := by omega
        have hlz : decide (u < 192) = false := by simp; omega
        go_enter Tryd.func47, Tryd.ntmps47
        go_wp2_with fail
        go_ret
        exact ⟨rfl, ((Nx.refl _).alloc _).alloc _⟩
      · rw [formed_eq (m := 2) hu.out (by simp; omega)]
        obtain ⟨V, hV⟩ : ∃ V, Hid ((l.drop 1).all (fun b => contN b.toNat) = V) := ⟨_, rfl⟩
        rw [hV.out]
        have hhz : decide ((32 : Int) ≤ u - 192) = false := by simp; omega
        have hlz : decide (u < 192) = false := by simp; omega
        go_enter Tryd.func47, Tryd.ntmps47
        go_wp2_with fail
        go_loop [7] (fun i => ∃ k : Nat, 1 ≤ k ∧ k ≤ n ∧ i = .int .i64 k ∧ Hid (((l.take k).drop 1).all (fun b => contN b.toNat) = true)) (fun i => n - (RowKit.intOf i).toNat)
        case atStart => exact ⟨1, Nat.le_refl _, h1, rfl, by show _ = _; rw [List.drop_of_length_le (by rw [List.length_take]; omega)]; rfl⟩
        case round =>
          obtain ⟨k, hk1, hk, rfl, hall⟩ := hrel
          by_cases hlt : k < n
          · obtain ⟨v, hv0, hv1, hv⟩ : ∃ v : Int, 0 ≤ v ∧ v < 256 ∧ Hid (((l.getD k 0).toNat : Int) = v) := ⟨_, by omega, by have := (l.getD k 0).toNat_lt; omega, rfl⟩
            have qk := hcell.out k hlt
            rw [hv.out] at qk
            by_cases hc : 128 ≤ v ∧ v ≤ 191
            · have hs := Lib.hid (conts_snoc l k hk1 (by rw [LX.out]; exact hlt) hall.out (decide_eq_true (by have := hv.out; omega)))
              have z1 : decide (v < 128) = false := by simp; omega
              have z2 : decide ((191 : Int) < v) = false := by simp; omega
              go_wp2_with fail
              go_round
              case rel => exact ⟨k + 1, by omega, by omega, by go_num, hs⟩
              case measure => simp [RowKit.intOf]; omega
            · obtain rfl : V = false := by rw [← hV.out]; exact conts_not l k hk1 (by rw [LX.out]; exact hlt) (decide_eq_false (by have := hv.out; omega))
              by_cases hc1 : v < 128
              · go_wp2_with fail
                go_ret
                exact ⟨rfl, ((Nx.refl _).alloc _).alloc _⟩
              · have z1 : decide (v < 128) = false := by simp; omega
                have z2 : (191 : Int) < v := by omega
                go_wp2_with fail
                go_ret
                exact ⟨rfl, ((Nx.refl _).alloc _).alloc _⟩
          · obtain rfl : V = true := by
              have := hall.out
              rw [List.take_of_length_le (by rw [LX.out]; omega), hV.out] at this
              exact this
            go_wp2_with fail
            go_ret
            exact ⟨rfl, ((Nx.refl _).alloc _).alloc _⟩
  · by_cases hlo : u < 224
    · rw [formed_lo (m := 3) hu.out (Or.inl (by simpa using hlo))]
      go_enter Tryd.func47, Tryd.ntmps47
      go_wp2_with fail
      go_ret
      exact ⟨rfl, ((Nx.refl _).alloc _).alloc _⟩
    · by_cases hhi : 240 ≤ u
      · rw [formed_lo (m := 3) hu.out (Or.inr (by simpa using hhi))]
        have hhz : (16 : Int) ≤ u - 224 := by omega
        have hlz : decide (u < 224) = false := by simp; omega
        go_enter Tryd.func47, Tryd.ntmps47
        go_wp2_with fail
        go_ret
        exact ⟨rfl, ((Nx.refl _).alloc _).alloc _⟩
      · rw [formed_eq (m := 3) hu.out (by simp; omega)]
        obtain ⟨V, hV⟩ : ∃ V, Hid ((l.drop 1).all (fun b => contN b.toNat) = V) := ⟨_, rfl⟩
        rw [hV.out]
        have hhz : decide ((16 : Int) ≤ u - 224) = false := by simp; omega
        have hlz : decide (u < 224) = false := by simp; omega
        go_enter Tryd.func47, Tryd.ntmps47
        go_wp2_with fail
        go_loop [7] (fun i => ∃ k : Nat, 1 ≤ k ∧ k ≤ n ∧ i = .int .i64 k ∧ Hid (((l.take k).drop 1).all (fun b => contN b.toNat) = true)) (fun i => n - (RowKit.intOf i).toNat)
        case atStart => exact ⟨1, Nat.le_refl _, h1, rfl, by show _ = _; rw [List.drop_of_length_le (by rw [List.length_take]; omega)]; rfl⟩
        case round =>
          obtain ⟨k, hk1, hk, rfl, hall⟩ := hrel
          by_cases hlt : k < n
          · obtain ⟨v, hv0, hv1, hv⟩ : ∃ v : Int, 0 ≤ v ∧ v < 256 ∧ Hid (((l.getD k 0).toNat : Int) = v) := ⟨_, by omega, by have := (l.getD k 0).toNat_lt; omega, rfl⟩
            have qk := hcell.out k hlt
            rw [hv.out] at qk
            by_cases hc : 128 ≤ v ∧ v ≤ 191
            · have hs := Lib.hid (conts_snoc l k hk1 (by rw [LX.out]; exact hlt) hall.out (decide_eq_true (by have := hv.out; omega)))
              have z1 : decide (v < 128) = false := by simp; omega
              have z2 : decide ((191 : Int) < v) = false := by simp; omega
              go_wp2_with fail
              go_round
              case rel => exact ⟨k + 1, by omega, by omega, by go_num, hs⟩
              case measure => simp [RowKit.intOf]; omega
            · obtain rfl : V = false := by rw [← hV.out]; exact conts_not l k hk1 (by rw [LX.out]; exact hlt) (decide_eq_false (by have := hv.out; omega))
              by_cases hc1 : v < 128
              · go_wp2_with fail
                go_ret
                exact ⟨rfl, ((Nx.refl _).alloc _).alloc _⟩
              · have z1 : decide (v < 128) = false := by simp; omega
                have z2 : (191 : Int) < v := by omega
                go_wp2_with fail
                go_ret
                exact ⟨rfl, ((Nx.refl _).alloc _).alloc _⟩
          · obtain rfl : V = true := by
              have := hall.out
              rw [List.take_of_length_le (by rw [LX.out]; omega), hV.out] at this
              exact this
            go_wp2_with fail
            go_ret
            exact ⟨rfl, ((Nx.refl _).alloc _).alloc _⟩
  · by_cases hlo : u < 240
    · rw [formed_lo (m := 4) hu.out (Or.inl (by simpa using hlo))]
      go_enter Tryd.func47, Tryd.ntmps47
      go_wp2_with fail
      go_ret
      exact ⟨rfl, ((Nx.refl _).alloc _).alloc _⟩
    · by_cases hhi : 248 ≤ u
      · rw [formed_lo (m := 4) hu.out (Or.inr (by simpa using hhi))]
        have hhz : (8 : Int) ≤ u - 240 := by omega
        have hlz : decide (u < 240) = false := by simp; omega
        go_enter Tryd.func47, Tryd.ntmps47
        go_wp2_with fail
        go_ret
        exact ⟨rfl, ((Nx.refl _).alloc _).alloc _⟩
      · rw [formed_eq (m := 4) hu.out (by simp; omega)]
        obtain ⟨V, hV⟩ : ∃ V, Hid ((l.drop 1).all (fun b => contN b.toNat) = V) := ⟨_, rfl⟩
        rw [hV.out]
        have hhz : decide ((8 : Int) ≤ u - 240) = false := by simp; omega
        have hlz : decide (u < 240) = false := by simp; omega
        go_enter Tryd.func47, Tryd.ntmps47
        go_wp2_with fail
        go_loop [7] (fun i => ∃ k : Nat, 1 ≤ k ∧ k ≤ n ∧ i = .int .i64 k ∧ Hid (((l.take k).drop 1).all (fun b => contN b.toNat) = true)) (fun i => n - (RowKit.intOf i).toNat)
        case atStart => exact ⟨1, Nat.le_refl _, h1, rfl, by show _ = _; rw [List.drop_of_length_le (by rw [List.length_take]; omega)]; rfl⟩
        case round =>
          obtain ⟨k, hk1, hk, rfl, hall⟩ := hrel
          by_cases hlt : k < n
          · obtain ⟨v, hv0, hv1, hv⟩ : ∃ v : Int, 0 ≤ v ∧ v < 256 ∧ Hid (((l.getD k 0).toNat : Int) = v) := ⟨_, by omega, by have := (l.getD k 0).toNat_lt; omega, rfl⟩
            have qk := hcell.out k hlt
            rw [hv.out] at qk
            by_cases hc : 128 ≤ v ∧ v ≤ 191
            · have hs := Lib.hid (conts_snoc l k hk1 (by rw [LX.out]; exact hlt) hall.out (decide_eq_true (by have := hv.out; omega)))
              have z1 : decide (v < 128) = false := by simp; omega
              have z2 : decide ((191 : Int) < v) = false := by simp; omega
              go_wp2_with fail
              go_round
              case rel => exact ⟨k + 1, by omega, by omega, by go_num, hs⟩
              case measure => simp [RowKit.intOf]; omega
            · obtain rfl : V = false := by rw [← hV.out]; exact conts_not l k hk1 (by rw [LX.out]; exact hlt) (decide_eq_false (by have := hv.out; omega))
              by_cases hc1 : v < 128
              · go_wp2_with fail
                go_ret
                exact ⟨rfl, ((Nx.refl _).alloc _).alloc _⟩
              · have z1 : decide (v < 128) = false := by simp; omega
                have z2 : (191 : Int) < v := by omega
                go_wp2_with fail
                go_ret
                exact ⟨rfl, ((Nx.refl _).alloc _).alloc _⟩
          · obtain rfl : V = true := by
              have := hall.out
              rw [List.take_of_length_le (by rw [LX.out]; omega), hV.out] at this
              exact this
            go_wp2_with fail
            go_ret
            exact ⟨rfl, ((Nx.refl _).alloc _).alloc _⟩
end Go.Proofs.YtgjdlcnmfpbbhaaDoor
