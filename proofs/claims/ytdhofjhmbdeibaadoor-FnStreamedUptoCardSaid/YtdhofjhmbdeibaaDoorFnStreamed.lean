/- FnStreamed: bytes that come in two parts are decoded to the same runes as the whole, if what is no full rune yet waits for the second part. The condition: what is read is of bulk at most 1048576; the tables are those that the program lays. -/
import Derived.Test.YtdhofjhmbdeibaaDoorFrame
import Derived.Test.YtdhofjhmbdeibaaDoorDecodeU
import Derived.Test.YtdhofjhmbdeibaaDoorSteps
import Derived.Test.YtdhofjhmbdeibaaDoorFullI
import Derived.Test.YtdhofjhmbdeibaaDoorJoined
import Derived.Test.YtdhofjhmbdeibaaDoorSame
import Derived.Test.YtdhofjhmbdeibaaDoorPlainE
namespace Go.Proofs.YtdhofjhmbdeibaaDoor
open Go.RowKit Go.Lib
set_option linter.unusedVariables false
theorem blk_cut (A : Option Addr) (c i : Nat) : blk (cutA A c i) = blk A := by
  unfold cutA blk
  split
  · rfl
  · cases A with
    | none => rfl
    | some a => simp [Addr.add]; split <;> rfl
theorem Sl.kept_ {k : IntKind} {w w' : World} {A : Option Addr} {n : Nat} {zs : List Int} {row : Option Nat} (h : Sl k w A n zs) (hg : w.grownBy w' row) (hne : 0 < n → blk A ≠ row) : Sl k w' A n zs :=
  ⟨h.1, fun h0 => by
    obtain ⟨b, off, e, hb, hc⟩ := h.2 h0
    have hr : some b ≠ row := by have := hne h0; rw [e] at this; exact this
    have hk : w'.heap[b]? = w.heap[b]? := hg.block b hb hr
    refine ⟨b, off, e, Nat.lt_of_lt_of_le hb hg.size, fun j z hz => ?_⟩
    have := hc j z hz
    unfold World.cell? at this ⊢
    rw [hk]
    exact this⟩
def slNum : Value → Nat
  | .slice _ n _ => n
  | _ => 0
theorem steps_more {P q : List UInt8} (hP : P ≠ []) (hf : fullB P = true) : steps (P ++ q) = dec P :: steps (P.drop (dec P).2 ++ q) := by
  have hb : begB P = false := by rw [full_eq P hP] at hf; simpa using hf
  have hle := decodeL_le P hP
  rw [steps_cons _ (by simp [hP]), dec_final hP hb, dec_of hP, List.drop_append_of_le_length hle]
/-- What the first loop holds. -/
structure StrRel (W0 q : List UInt8) (w w1 wr : World) (N0 : Nat) (Ag : Option Addr) (ng cg : Nat) (Ar : Option Addr) (m : Nat) : Prop where
  ps : ∃ ps P, Own .i32 21 w1.heap.size wr Ag ng cg (ps.map fun p : Nat × Nat => (p.1 : Int)) ∧ By w Ar m P ∧ steps W0 = ps ++ steps (P ++ q) ∧ ps.length + m ≤ N0
  nx : Nx w1 wr
/-- What the second loop holds. -/
structure StrRel2 (W0 : List UInt8) (w1 wr : World) (N0 : Nat) (Ag : Option Addr) (ng cg : Nat) (Ar : Option Addr) (m : Nat) : Prop where
  ps : ∃ ps Q, Own .i32 21 w1.heap.size wr Ag ng cg (ps.map fun p : Nat × Nat => (p.1 : Int)) ∧ By wr Ar m Q ∧ steps W0 = ps ++ steps Q ∧ ps.length + m ≤ N0
  far : 0 < m → blk Ar ≠ blk Ag
  nx : Nx w1 wr
theorem far_app {w6 : World} {o : Obj} {Ar Ag B : Option Addr} {m : Nat} {Q : List UInt8} (q : By w6 Ar m Q) (far : 0 < m → blk Ar ≠ blk Ag) (hat : blk B = blk Ag ∨ blk B = some (w6.alloc o).heap.size) : 0 < m → blk Ar ≠ blk B := by
  intro h0
  rcases hat with h | h
  · rw [h]; exact far h0
  · obtain ⟨b, off, h1, hb, _⟩ := By.open_ q h0
    rw [h, h1]
    have : (w6.alloc o).heap.size = w6.heap.size + 1 := by simp
    intro he
    have he : b = (w6.alloc o).heap.size := by simpa [blk] using he
    omega
set_option maxRecDepth 100000 in
set_option maxHeartbeats 4000000 in
theorem fnStreamed_walk (A0 : Option Addr) (n0 c0 : Nat) (l0 : List UInt8) (A1 : Option Addr) (n1 c1 : Nat) (l1 : List UInt8) (w : World) (hT : Tabs w) (e0 : By w A0 n0 l0) (g0 : n0 ≤ c0) (m0 : c0 ≤ 1048576)
    (e1 : By w A1 n1 l1) (g1 : n1 ≤ c1) (m1 : c1 ≤ 1048576) (_hu : c0 + c1 ≤ 1048576) :
    Calls Tryd.prog 6 #[.slice A0 n0 c0, .slice A1 n1 c1] w fun e w' => e = .returned (.bool true) ∧ Nx w w' := by
  obtain ⟨j0, hj0, hy0, hy1, hy2⟩ := info_parts i32_info
  have LX := Lib.hid e0.len
  have LY := Lib.hid e1.len
  obtain ⟨W0, hW0⟩ : ∃ W0, Hid (l0 ++ l1 = W0) := ⟨_, rfl⟩
  have hWl : W0.length = n0 + n1 := by rw [← hW0.out, List.length_append, LX.out, LY.out]
  go_enter Tryd.func6, Tryd.ntmps6
  go_wp2_with fail
  refine (joined_any _ _ _ l0 _ _ _ l1 _ e0 e1 (by omega)).mono ?_
  rw [hW0.out]
  rintro e w01 ⟨A3, n3, c3, rfl, o3, x01⟩
  have hn3 : n3 = n0 + n1 := by have := o3.len; rw [nums_length, hWl] at this; exact this
  subst hn3
  have hc3 := o3.cap_.1
  go_wp2_with fail
  refine (steps_any _ _ _ W0 _ o3.sl hc3 (by omega)).mono ?_
  rintro e w1 ⟨B1, b1, d1, B2, b2, d2, B3, b3, d3, rfl, _, oR, _, x12⟩
  have x1 := x01.trans x12
  have hb2 : b2 ≤ n0 + n1 := by have h1 := oR.len; have h2 := runesL_len W0; rw [hWl] at h2; omega
  have sR := oR.sl
  clear oR o3
  have e0' := e0.next x1
  go_wp2_with fail
  go_loopw [9, 10] (fun v rest wr => ∃ (Ag : Option Addr) (ng cg : Nat) (Ar : Option Addr) (m c : Nat), v = .slice Ag ng cg ∧ rest = .slice Ar m c ∧ m ≤ c ∧ c ≤ c0 ∧ StrRel W0 l1 w w1 wr n0 Ag ng cg Ar m) (fun _ rest _ => slNum rest)
  case atStart =>
    refine ⟨_, 0, 0, A0, n0, c0, rfl, rfl, g0, Nat.le_refl _, ⟨[], l0, ?_, e0, by rw [hW0.out]; rfl, by simp⟩, (Nx.refl _).alloc _⟩
    exact Own.new .i32 _ w1.heap.size w1 (Nat.le_refl _) [] _ 0 rfl rfl (by simp [maxLen])
  case round =>
    obtain ⟨Ag, ng, cg, Ar, m, c, rfl, rfl, hmc, hcc, ⟨⟨ps, P, hog, hP, hst, hbnd⟩, hnx⟩⟩ := hrel
    have HST := Lib.hid hst
    have LP := Lib.hid hP.len
    have hng : Hid (ng = ps.length) := by have := hog.len; rw [List.length_map] at this; exact this
    have hngb : ng ≤ n0 := by have := hng.out; omega
    clear hst
    have y := x1.trans hnx
    obtain ⟨F, hF⟩ : ∃ F, Hid (fullB P = F) := ⟨_, rfl⟩
    have cf := Lib.hid fun W (h : Nx w W) => fullR_any Ar m c P W (hT.next h) (hP.next h) (by omega)
    rw [hF.out] at cf
    by_cases hm0 : m = 0
    · subst hm0
      go_wp2_with fail
      refine (joined_any _ _ _ P _ _ _ l1 _ (hP.next y) (e1.next y) (by omega)).mono ?_
      rintro e w8 ⟨A8, n8, c8, rfl, o8, x8⟩
      have hn8 : Hid (n8 = 0 + n1) := by have := o8.len; rw [nums_length, List.length_append, LP.out, LY.out] at this; exact this
      have hc8 := o8.cap_.1
      have hc8' : c8 ≤ 9223372036854775807 := by have := o8.cap_.2; simp only [maxLen] at this; exact this
      have y8 := y.trans x8
      have og8 := hog.next x8
      have nx8 := hnx.trans x8
      have F8 : blk A8 ≠ blk Ag ∨ blk A8 = none := by
        cases hA : blk A8 with
        | none => exact Or.inr rfl
        | some g =>
          left
          intro h
          have h1 := (o8.lt hA).1
          have h2 := (hog.lt h.symm).2
          omega
      have FF8 := Lib.hid F8
      have s8 : By w8 A8 n8 (P ++ l1) := o8.sl
      clear F8 o8 hog hnx
      go_wp2_with fail
      go_loopw [9, 10] (fun v rest wr2 => ∃ (Ag : Option Addr) (ng cg : Nat) (Ar : Option Addr) (m c : Nat), v = .slice Ag ng cg ∧ rest = .slice Ar m c ∧ m ≤ c ∧ c ≤ 9223372036854775807 ∧ StrRel2 W0 w1 wr2 (n0 + n1) Ag ng cg Ar m) (fun _ rest _ => slNum rest)
      case atStart =>
        refine ⟨Ag, ng, cg, A8, n8, c8, rfl, rfl, hc8, hc8', ⟨ps, P ++ l1, og8, s8, HST.out, by have := hn8.out; omega⟩, fun h0 => ?_, nx8⟩
        rcases FF8.out with h | h
        · exact h
        · exfalso
          obtain ⟨b, off, h1, _⟩ := Sl.open_ s8 h0
          rw [h1] at h
          cases h
      case round =>
        clear FF8 s8 og8 nx8 hP cf hng hngb hbnd HST y
        obtain ⟨Ag, ng, cg, Ar, m, c, rfl, rfl, hmc, hcc, ⟨⟨ps, Q, hog, hQ, hst, hbnd⟩, hfar, hnx⟩⟩ := hrel
        have HST := Lib.hid hst
        have LQ := Lib.hid hQ.len
        have FAR := Lib.hid hfar
        have hng : Hid (ng = ps.length) := by have := hog.len; rw [List.length_map] at this; exact this
        have hngb : ng ≤ n0 + n1 := by have := hng.out; omega
        clear hst hfar
        have y := x1.trans hnx
        by_cases hm0 : m = 0
        · have hQn : Q = [] := List.eq_nil_of_length_eq_zero (by rw [LQ.out]; exact hm0)
          have hfin : Hid ((ps.map fun p : Nat × Nat => (p.1 : Int)) = runesL W0) := by
            show _ = _
            unfold runesL
            rw [HST.out, hQn, steps_nil, List.append_nil]
          have sg := hog.sl
          rw [hfin.out] at sg
          clear hQn
          subst hm0
          go_wp2_with fail
          refine (same_runes _ _ _ _ _ _ (runesL W0) (runesL W0) _ sg (sR.next hnx) (by omega) (by omega)).mono ?_
          rw [eqB_refl]
          rintro e w9 ⟨rfl, x9⟩
          go_wp2_with fail
          go_ret
          exact ⟨rfl, y.trans x9⟩
        · have z0 : (0 : Int) < (m : Int) := by omega
          have hQne : Q ≠ [] := by intro h; have := LQ.out; rw [h] at this; simp at this; omega
          obtain ⟨R, K, hD⟩ : ∃ R K, Hid (dec Q = (R, K)) := ⟨_, _, rfl⟩
          have hb := dec_bounds Q
          rw [hD.out] at hb
          obtain ⟨_, k4, kn, k1, _⟩ := hb
          have k1 := k1 hQne
          simp only at k4 kn k1
          rw [LQ.out] at kn
          have HST2 : Hid (steps W0 = (ps ++ [(R, K)]) ++ steps (Q.drop K)) := by
            show _ = _
            have h1 := steps_cons Q hQne
            rw [← dec_of hQne, hD.out] at h1
            rw [HST.out, h1]
            simp
          have hcut := fun W => run_cut (P := Tryd.prog) 30 5 Tryd.underlying30 (fun _ => by kernel_rfl) Ar m c .i64 (K : Int) K rfl kn W
          clear hQne hm0
          go_wp2_with fail
          refine (decode_any _ _ _ Q _ (hT.next y) hQ).mono ?_
          rw [hD.out]
          rintro e w6 ⟨rfl, x6⟩
          have o6 := hog.next x6
          have n6 := hnx.trans x6
          have q6 := hQ.next x6
          clear hog hnx y hQ
          go_wp2_with (at_builtin; have _t := o6; go_must (refine wpList_append_sl _ rfl (.tmp 75) (.tmp 77) _ rfl w1.heap.size 21 j0 _ 4 Tryd.underlying23 hj0 hy0 hy1 hy2 rfl Ag ng cg _ rfl (kept_alloc o6 _) _ 1 1 [(R : Int)] rfl (one_sl .i32 _ _ _) (by simp only [maxLen]; omega) (by omega) (n6.alloc _).size ?_); intro B7 m7 d7 w7 o7 hg7 hat7; have n7 := (n6.alloc _).app (kept_alloc o6 _) hg7; have q7 : By w7 Ar m Q := Sl.kept_ (By.next q6 ((Nx.refl _).alloc _)) hg7 FAR.out; have far7 := Lib.hid (far_app q6 FAR.out hat7); clear _t o6 hg7 hat7)
          go_roundw
          case rel =>
            refine ⟨B7, m7, d7, cutA Ar c K, m - K, c - K, rfl, rfl, by omega, by omega, ⟨ps ++ [(R, K)], Q.drop K, ?_, q7.from_ kn hmc, HST2.out, by rw [List.length_append]; simp; omega⟩, fun h => by rw [blk_cut]; exact far7.out (by omega), n7⟩
            rw [List.map_append]
            exact o7
          case measure => simp [slNum]; omega
    · have z0 : (0 : Int) < (m : Int) := by omega
      have hPne : P ≠ [] := by intro h; have := LP.out; rw [h] at this; simp at this; omega
      cases F with
      | false =>
        have hm3 : m ≤ 3 := by
          have hb : begB P = true := by have := hF.out; rw [full_eq P hPne] at this; simpa using this
          have := (beg_len hb).2
          rw [LP.out] at this
          exact this
        have z3 : decide ((3 : Int) < (m : Int)) = false := by simp <;> omega
        clear hPne
        go_wp2_with fail
        refine (cf.out _ y).mono ?_
        rintro e w5 ⟨rfl, x5⟩
        have hog5 := hog.next x5
        have y5 := y.trans x5
        have hnx5 := hnx.trans x5
        clear hog y hnx
        have hog := hog5
        have y := y5
        have hnx := hnx5
        clear hog5 y5 hnx5
        go_wp2_with fail
        refine (joined_any _ _ _ P _ _ _ l1 _ (hP.next y) (e1.next y) (by omega)).mono ?_
        rintro e w8 ⟨A8, n8, c8, rfl, o8, x8⟩
        have hn8 : Hid (n8 = m + n1) := by have := o8.len; rw [nums_length, List.length_append, LP.out, LY.out] at this; exact this
        have hc8 := o8.cap_.1
        have hc8' : c8 ≤ 9223372036854775807 := by have := o8.cap_.2; simp only [maxLen] at this; exact this
        have y8 := y.trans x8
        have og8 := hog.next x8
        have nx8 := hnx.trans x8
        have F8 : blk A8 ≠ blk Ag ∨ blk A8 = none := by
          cases hA : blk A8 with
          | none => exact Or.inr rfl
          | some g =>
            left
            intro h
            have h1 := (o8.lt hA).1
            have h2 := (hog.lt h.symm).2
            omega
        have FF8 := Lib.hid F8
        have s8 : By w8 A8 n8 (P ++ l1) := o8.sl
        clear F8 o8 hog hnx
        go_wp2_with fail
        go_loopw [9, 10] (fun v rest wr2 => ∃ (Ag : Option Addr) (ng cg : Nat) (Ar : Option Addr) (m c : Nat), v = .slice Ag ng cg ∧ rest = .slice Ar m c ∧ m ≤ c ∧ c ≤ 9223372036854775807 ∧ StrRel2 W0 w1 wr2 (n0 + n1) Ag ng cg Ar m) (fun _ rest _ => slNum rest)
        case atStart =>
          refine ⟨Ag, ng, cg, A8, n8, c8, rfl, rfl, hc8, hc8', ⟨ps, P ++ l1, og8, s8, HST.out, by have := hn8.out; omega⟩, fun h0 => ?_, nx8⟩
          rcases FF8.out with h | h
          · exact h
          · exfalso
            obtain ⟨b, off, h1, _⟩ := Sl.open_ s8 h0
            rw [h1] at h
            cases h
        case round =>
          clear FF8 s8 og8 nx8 hP cf hng hngb hbnd HST y
          obtain ⟨Ag, ng, cg, Ar, m, c, rfl, rfl, hmc, hcc, ⟨⟨ps, Q, hog, hQ, hst, hbnd⟩, hfar, hnx⟩⟩ := hrel
          have HST := Lib.hid hst
          have LQ := Lib.hid hQ.len
          have FAR := Lib.hid hfar
          have hng : Hid (ng = ps.length) := by have := hog.len; rw [List.length_map] at this; exact this
          have hngb : ng ≤ n0 + n1 := by have := hng.out; omega
          clear hst hfar
          have y := x1.trans hnx
          by_cases hm0 : m = 0
          · have hQn : Q = [] := List.eq_nil_of_length_eq_zero (by rw [LQ.out]; exact hm0)
            have hfin : Hid ((ps.map fun p : Nat × Nat => (p.1 : Int)) = runesL W0) := by
              show _ = _
              unfold runesL
              rw [HST.out, hQn, steps_nil, List.append_nil]
            have sg := hog.sl
            rw [hfin.out] at sg
            clear hQn
            subst hm0
            go_wp2_with fail
            refine (same_runes _ _ _ _ _ _ (runesL W0) (runesL W0) _ sg (sR.next hnx) (by omega) (by omega)).mono ?_
            rw [eqB_refl]
            rintro e w9 ⟨rfl, x9⟩
            go_wp2_with fail
            go_ret
            exact ⟨rfl, y.trans x9⟩
          · have z0 : (0 : Int) < (m : Int) := by omega
            have hQne : Q ≠ [] := by intro h; have := LQ.out; rw [h] at this; simp at this; omega
            obtain ⟨R, K, hD⟩ : ∃ R K, Hid (dec Q = (R, K)) := ⟨_, _, rfl⟩
            have hb := dec_bounds Q
            rw [hD.out] at hb
            obtain ⟨_, k4, kn, k1, _⟩ := hb
            have k1 := k1 hQne
            simp only at k4 kn k1
            rw [LQ.out] at kn
            have HST2 : Hid (steps W0 = (ps ++ [(R, K)]) ++ steps (Q.drop K)) := by
              show _ = _
              have h1 := steps_cons Q hQne
              rw [← dec_of hQne, hD.out] at h1
              rw [HST.out, h1]
              simp
            have hcut := fun W => run_cut (P := Tryd.prog) 30 5 Tryd.underlying30 (fun _ => by kernel_rfl) Ar m c .i64 (K : Int) K rfl kn W
            clear hQne hm0
            go_wp2_with fail
            refine (decode_any _ _ _ Q _ (hT.next y) hQ).mono ?_
            rw [hD.out]
            rintro e w6 ⟨rfl, x6⟩
            have o6 := hog.next x6
            have n6 := hnx.trans x6
            have q6 := hQ.next x6
            clear hog hnx y hQ
            go_wp2_with (at_builtin; have _t := o6; go_must (refine wpList_append_sl _ rfl (.tmp 75) (.tmp 77) _ rfl w1.heap.size 21 j0 _ 4 Tryd.underlying23 hj0 hy0 hy1 hy2 rfl Ag ng cg _ rfl (kept_alloc o6 _) _ 1 1 [(R : Int)] rfl (one_sl .i32 _ _ _) (by simp only [maxLen]; omega) (by omega) (n6.alloc _).size ?_); intro B7 m7 d7 w7 o7 hg7 hat7; have n7 := (n6.alloc _).app (kept_alloc o6 _) hg7; have q7 : By w7 Ar m Q := Sl.kept_ (By.next q6 ((Nx.refl _).alloc _)) hg7 FAR.out; have far7 := Lib.hid (far_app q6 FAR.out hat7); clear _t o6 hg7 hat7)
            go_roundw
            case rel =>
              refine ⟨B7, m7, d7, cutA Ar c K, m - K, c - K, rfl, rfl, by omega, by omega, ⟨ps ++ [(R, K)], Q.drop K, ?_, q7.from_ kn hmc, HST2.out, by rw [List.length_append]; simp; omega⟩, fun h => by rw [blk_cut]; exact far7.out (by omega), n7⟩
              rw [List.map_append]
              exact o7
            case measure => simp [slNum]; omega
      | true =>
        have hsm := steps_more (q := l1) hPne hF.out
        obtain ⟨R, K, hD⟩ : ∃ R K, Hid (dec P = (R, K)) := ⟨_, _, rfl⟩
        have hb := dec_bounds P
        rw [hD.out] at hb hsm
        obtain ⟨_, k4, kn, k1, _⟩ := hb
        have k1 := k1 hPne
        simp only at k4 kn k1 hsm
        rw [LP.out] at kn
        have HST2 : Hid (steps W0 = (ps ++ [(R, K)]) ++ steps (P.drop K ++ l1)) := by show _ = _; rw [HST.out, hsm]; simp
        have cd := Lib.hid fun W (h : Nx w W) => decode_any Ar m c P W (hT.next h) (hP.next h)
        rw [hD.out] at cd
        have hcut := fun W => run_cut (P := Tryd.prog) 30 5 Tryd.underlying30 (fun _ => by kernel_rfl) Ar m c .i64 (K : Int) K rfl kn W
        have sc := hP.from_ kn hmc
        clear hPne hsm
        go_wp2_with fail
        refine (cf.out _ y).mono ?_
        rintro e w5 ⟨rfl, x5⟩
        have y5 := y.trans x5
        have o5 := hog.next x5
        have n5 := hnx.trans x5
        go_wp2_with fail
        refine (cd.out _ y5).mono ?_
        rintro e w6 ⟨rfl, x6⟩
        have o6 := o5.next x6
        have n6 := n5.trans x6
        clear hog o5 hnx n5 y y5
        go_wp2_with (at_builtin; have _t := o6; go_must (refine wpList_append_sl _ rfl (.tmp 46) (.tmp 48) _ rfl w1.heap.size 21 j0 _ 4 Tryd.underlying23 hj0 hy0 hy1 hy2 rfl Ag ng cg _ rfl (kept_alloc o6 _) _ 1 1 [(R : Int)] rfl (one_sl .i32 _ _ _) (by simp only [maxLen]; omega) (by omega) (n6.alloc _).size ?_); intro B7 m7 d7 w7 o7 hg7 hat7; have n7 := (n6.alloc _).app (kept_alloc o6 _) hg7; clear _t o6 hg7 hat7)
        go_roundw
        case rel =>
          refine ⟨B7, m7, d7, cutA Ar c K, m - K, c - K, rfl, rfl, by omega, by omega, ⟨ps ++ [(R, K)], P.drop K, ?_, sc, HST2.out, by rw [List.length_append]; simp; omega⟩, n7⟩
          rw [List.map_append]
          exact o7
        case measure => simp [slNum]; omega
namespace fnStreamed
open Go.ChangeShapes Go.WideShapes Go.ChangeAt Go.RowKit
open Go.ChangeMaps (open_string shut_string)
set_option maxRecDepth 100000 in
set_option linter.unusedVariables false in
theorem laid_met (os : Os) : laidMet Tryd.prog Rows.fnStreamedUptoRow.laid ((laidWorld os).forCall (fun _ _ => 0) ⟨#[], #[.slice none 0 0, .slice none 0 0], []⟩).memory :=
  laidMet_of_run' 8 (by kernel_rfl) (by kernel_rfl)
theorem reads (os : Os) {H : Type} (enc : TypeId × Value → H) : ∃ places, DataW.whole enc Tryd.prog ((laidWorld os).forCall (fun _ _ => 0) ⟨#[], #[.slice none 0 0, .slice none 0 0], []⟩).memory Tryd.f6.params.toList Rows.fnStreamedSpec.vars false (#[.slice none 0 0, .slice none 0 0] : Array Value).toList 8 = some ([.nil, .nil], [], places) :=
  ⟨[], by kernel_rfl⟩
set_option maxRecDepth 100000 in
set_option linter.unusedVariables false in
theorem lifted (os : Os) (started : os.Started) (H : Type) (enc : TypeId × Value → H) (F : Stop.Interp) :
    ReturnsInHanded {} Tryd.checked os 6 .any ((Rows.OpenSpec.upto Rows.fnStreamedSpec).preRow enc Tryd.prog Tryd.f6 Rows.fnStreamedUptoRow.domain false Rows.fnStreamedUptoRow.laid) (((Rows.OpenSpec.upto Rows.fnStreamedSpec).at F).post enc Tryd.prog Tryd.f6 false true false false) := by
  obtain ⟨places, hx⟩ := reads os enc
  refine returnsInHanded_of_row (C := Tryd.checked) (s := (Rows.OpenSpec.upto Rows.fnStreamedSpec)) own started (by kernel_rfl) Tryd.func6
    (witness_row_at (enc := enc) (C := Tryd.checked) false (laidWorld os) #[.slice none 0 0, .slice none 0 0] rfl (by kernel_rfl) (by kernel_rfl) (by kernel_rfl)
      (OpenSpec.preRow_of_cond 8 hx (by kernel_rfl) (fun k hk => by cases hk; kernel_rfl) (by kernel_rfl) (laid_met os))) ?_
  intro W base args ds gs before hval0 hW _ hkk hsz0 hL _ _
  have hk := hkk _ rfl
  have hval : ∀ (j : Nat) t v, Tryd.f6.params[j]? = some t → args[j]? = some v → Value.okWide Tryd.prog W .any base t v := hval0
  have hW' := hW
  obtain ⟨p, q, hA0, hV, rfl, hfz, hnd⟩ := hW
  have hA : DataW.TrodAll enc Tryd.prog W 0 (fun _ => true) true Tryd.f6.params.toList args.toList ds p := hA0
  rw [Tryd.params6] at hA hval
  obtain ⟨v0, vs0, d0, ds0, p0, q0, hargs, rfl, rfl, h0, r0⟩ := trodAll_cons hA
  obtain ⟨v1, vs1, d1, ds1, p1, q1, rfl, rfl, rfl, h1, r1⟩ := trodAll_cons r0
  obtain ⟨rfl, rfl, rfl⟩ := trodAll_nil r1
  obtain rfl : args = #[v0, v1] := by cases args; simp_all
  obtain ⟨rfl, rfl⟩ := trodVars_none hV
  have k0 := h0
  have lt0 : ∀ x ∈ p0, x.block < W.heap.size := by obtain ⟨m, hm⟩ := k0; exact DataW.trod_lt m _ _ _ hm
  obtain ⟨A0, n0, c0, l0, rfl, e0, g0, m0, u0⟩ := open_by Tryd.underlying30 Tryd.underlying5 (by kernel_rfl) (hval 0 30 v0 rfl rfl) h0
  have z0 : c0 ≤ 1048576 := by have := bulk_held u0; have hb := bulk_bound hk; simp only [Rows.uptoBulkAll, List.append_nil] at hb; omega
  have k1 := h1
  have lt1 : ∀ x ∈ p1, x.block < W.heap.size := by obtain ⟨m, hm⟩ := k1; exact DataW.trod_lt m _ _ _ hm
  obtain ⟨A1, n1, c1, l1, rfl, e1, g1, m1, u1⟩ := open_by Tryd.underlying30 Tryd.underlying5 (by kernel_rfl) (hval 1 30 v1 rfl rfl) h1
  have z1 : c1 ≤ 1048576 := by have := bulk_held u1; have hb := bulk_bound hk; simp only [Rows.uptoBulkAll, List.append_nil] at hb; omega
  have hu : c0 + c1 ≤ 1048576 := by have q0 := bulk_held u0; have q1 := bulk_held u1; have hb := bulk_bound hk; simp only [Rows.uptoBulkAll, List.append_nil] at hb; omega
  clear hA0 hval0
  refine (fnStreamed_walk A0 n0 c0 l0 A1 n1 c1 l1 W (tabs hL) e0 g0 z0 e1 g1 z1 hu).mono fun e W' ⟨he, bel⟩ => ?_
  subst he
  exact ⟨_, rfl, _, _, _, [], _, [], hW', trodAll_mk1 (shut_bool Tryd.underlying4 _), (trodAll_cons_mk (Below.trod laidOut (by kernel_rfl) (of_decide_eq_true (by kernel_rfl)) k0 bel.out lt0) (trodAll_cons_mk (Below.trod laidOut (by kernel_rfl) (of_decide_eq_true (by kernel_rfl)) k1 bel.out lt1) trodAll_mk0)), rfl, bel.out.frame _, fun h => by cases h⟩
theorem row : Rows.FnStreamedUptoSaid :=
  OpenClaim.holds_of_cond 6 Tryd.f6 rfl rfl rfl rfl rfl rfl rfl ⟨rfl, rfl, rfl, rfl, rfl⟩ rfl rfl rfl rfl rfl (by kernel_rfl) Tryd.func6 (by kernel_rfl)
    (of_decide_eq_true (by kernel_rfl)) (by unfold Func.isWrapper; first | (rw [if_pos (by decide +kernel)]; kernel_rfl) | (rw [if_neg (by decide +kernel)]; exact ⟨rfl, rfl⟩))
    (fun os started H enc _ F => by rw [OpenClaim.pre_eq_preRow]; exact lifted os started H enc F)
theorem plain (f : FuncId) (fn : Func) (hf : Tryd.pinned.checked.prog.funcNamed Rows.fnStreamedUptoRow.func = some f) (hfn : Tryd.pinned.checked.prog.funcs[f]? = some fn) :
    false = Tryd.pinned.checked.prog.looks [] ∧ ∀ (j : Nat) t, fn.params[j]? = some t → Tryd.pinned.checked.prog.wantsStandIn t = false := by
  obtain rfl : f = 6 := Option.some.inj ((show Tryd.prog.funcNamed Rows.fnStreamedUptoRow.func = some 6 by kernel_rfl).symm.trans hf) |>.symm
  obtain rfl : fn = Tryd.f6 := (Option.some.inj (Tryd.func6.symm.trans hfn)).symm
  refine ⟨by kernel_rfl, fun j t ht => ?_⟩
  rw [Tryd.params6] at ht
  have hm := Array.mem_of_getElem? ht
  have hor : t = 30 := by simp at hm; omega
  subst hor
  exact (show Tryd.prog.wantsStandIn 30 = false by kernel_rfl)
theorem said : Rows.FnStreamedUptoCardSaid :=
  Claim7.holds_tied_plain_at .later [] _ _ _ _ row (fun _ h => by cases h) (by kernel_rfl) (fun _ h => by cases h) fnStreamedUpto_row_tie rfl ⟨rfl, rfl⟩ (by kernel_rfl) rfl plain (by kernel_rfl)
end fnStreamed
end Go.Proofs.YtdhofjhmbdeibaaDoor
