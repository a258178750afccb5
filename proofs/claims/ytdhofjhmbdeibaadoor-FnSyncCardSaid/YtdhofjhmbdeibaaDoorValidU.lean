/- Contracts: utf8.Valid of a slice of bytes, by unicode/utf8 and through impl: no step is RuneError with one byte. -/
import Derived.Test.YtdhofjhmbdeibaaDoorTabs
import Derived.Test.YtdhofjhmbdeibaaDoorPlainC
import Derived.Lib.ValidAsc
import Derived.Lib.EndianBits
import Derived.Lib.Endian
import Derived.Laws.BitsAllLaws
import Derived.Deep.LoopGhost
import Derived.Deep.DeepMust
import Derived.Deep.QuietTactic
import Derived.BigQuiet
import Derived.Deep.CutBlock
import Derived.Deep.DeepCutAuto
import Derived.RegionTactic
namespace Go.Proofs.YtdhofjhmbdeibaaDoor
open Go.RowKit Go.Lib
set_option linter.unusedVariables false
theorem validD_eqU (l : List UInt8) : Lib.validD l = validB l := by
  refine steps_ind (P := fun l => Lib.validD l = validB l) rfl (fun l hne ih => ?_) l
  rw [validD_step l hne, validB_step l hne, ih]
  by_cases h : bad l
  · rw [if_pos (by simpa [bad] using h)]; simp [h]
  · rw [if_neg (by simpa [bad] using h)]; simp [h]
set_option maxRecDepth 100000 in
theorem andSeven : ∀ X : Fin 256, bits .and .u8 ((X.val : Nat) : Int) 7 = ((X.val % 8 : Nat) : Int) := by decide
/-- The cells of a slice that reads as a string. -/
theorem By.cellsT {w : World} {A : Option Addr} {t : ByteArray} (h : By w A t.size t.data.toList) (h0 : 0 < t.size) :
    ∃ b off, A = some ⟨b, off, none⟩ ∧ b < w.heap.size ∧ ∀ j, j < t.size → w.cell? ⟨b, off + j, none⟩ = some (.int .u8 (t.get! j).toNat) := by
  obtain ⟨b, off, e, hb, hc⟩ := h.open_ h0
  refine ⟨b, off, e, hb, fun j hj => ?_⟩
  rw [hc j hj, Lib.getD_get!']
theorem By.extract {w : World} {A : Option Addr} {t : ByteArray} (h : By w A t.size t.data.toList) {k c : Nat} (hk : k ≤ t.size) (hc : t.size ≤ c) : By w (cutA A c k) (t.extract k t.size).size (t.extract k t.size).data.toList := by
  rw [Lib.ext_size, Lib.ext_list]
  exact h.from_ hk hc
set_option maxHeartbeats 8000000 in
set_option maxRecDepth 100000 in
theorem utf8_wordB (A : Option Addr) (c : Nat) (s : ByteArray) (w : World) (hB : By w A s.size s.data.toList) (hs : 8 ≤ s.size) :
    Calls Tryd.prog 51 #[.slice A s.size c] w fun e w' => e = .returned (.int .u64 (Lib.leNat [s.get! 0, s.get! 1, s.get! 2, s.get! 3, s.get! 4, s.get! 5, s.get! 6, s.get! 7])) ∧ ∃ q, w' = w.drewN q := by
  obtain ⟨b, off, rfl, hb, hc⟩ := hB.cellsT (by omega)
  have k0 := hc 0 (by omega)
  have k1 := hc 1 (by omega)
  have k2 := hc 2 (by omega)
  have k3 := hc 3 (by omega)
  have k4 := hc 4 (by omega)
  have k5 := hc 5 (by omega)
  have k6 := hc 6 (by omega)
  have k7 := hc 7 (by omega)
  rw [Nat.add_zero] at k0
  clear hc hB
  obtain ⟨x0, hx0⟩ : ∃ x0, s.get! 0 = x0 := ⟨_, rfl⟩
  have h0 : x0.toNat < 256 := x0.toNat_lt
  obtain ⟨x1, hx1⟩ : ∃ x1, s.get! 1 = x1 := ⟨_, rfl⟩
  have h1 : x1.toNat < 256 := x1.toNat_lt
  obtain ⟨x2, hx2⟩ : ∃ x2, s.get! 2 = x2 := ⟨_, rfl⟩
  have h2 : x2.toNat < 256 := x2.toNat_lt
  obtain ⟨x3, hx3⟩ : ∃ x3, s.get! 3 = x3 := ⟨_, rfl⟩
  have h3 : x3.toNat < 256 := x3.toNat_lt
  obtain ⟨x4, hx4⟩ : ∃ x4, s.get! 4 = x4 := ⟨_, rfl⟩
  have h4 : x4.toNat < 256 := x4.toNat_lt
  obtain ⟨x5, hx5⟩ : ∃ x5, s.get! 5 = x5 := ⟨_, rfl⟩
  have h5 : x5.toNat < 256 := x5.toNat_lt
  obtain ⟨x6, hx6⟩ : ∃ x6, s.get! 6 = x6 := ⟨_, rfl⟩
  have h6 : x6.toNat < 256 := x6.toNat_lt
  obtain ⟨x7, hx7⟩ : ∃ x7, s.get! 7 = x7 := ⟨_, rfl⟩
  have h7 : x7.toNat < 256 := x7.toNat_lt
  rw [hx0] at k0
  rw [hx1] at k1
  rw [hx2] at k2
  rw [hx3] at k3
  rw [hx4] at k4
  rw [hx5] at k5
  rw [hx6] at k6
  rw [hx7] at k7
  rw [hx0, hx1, hx2, hx3, hx4, hx5, hx6, hx7]
  clear hx0 hx1 hx2 hx3 hx4 hx5 hx6 hx7
  obtain ⟨n, hn⟩ : ∃ n, s.size = n := ⟨_, rfl⟩
  rw [hn] at hs ⊢
  clear hn
  have hv : ((Lib.leNat [x0, x1, x2, x3, x4, x5, x6, x7] : Nat) : Int) = (x0.toNat : Int) + (x1.toNat : Int) * 256 + (x2.toNat : Int) * 65536 + (x3.toNat : Int) * 16777216 + (x4.toNat : Int) * 4294967296 + (x5.toNat : Int) * 1099511627776 + (x6.toNat : Int) * 281474976710656 + (x7.toNat : Int) * 72057594037927936 := by
    simp only [Lib.leNat]
    push_cast
    omega
  have q0 : (0 : Int) < (n : Int) := by omega
  have q1 : (1 : Int) < (n : Int) := by omega
  have q2 : (2 : Int) < (n : Int) := by omega
  have q3 : (3 : Int) < (n : Int) := by omega
  have q4 : (4 : Int) < (n : Int) := by omega
  have q5 : (5 : Int) < (n : Int) := by omega
  have q6 : (6 : Int) < (n : Int) := by omega
  have q7 : (7 : Int) < (n : Int) := by omega
  have HV := Lib.hid hv
  clear hv
  go_enter Tryd.func51, Tryd.ntmps51
  go_wp2
  go_quiet (fail)
  go_wp2
  go_ret
  refine ⟨?_, _, rfl⟩
  simp (disch := omega) only [u64_or8, u64_or16, u64_or24, u64_or32, u64_or40, u64_or48, u64_or56]
  rw [HV.out]
  rfl
set_option maxHeartbeats 16000000 in
set_option maxRecDepth 1000000 in
theorem utf8_validT (A : Option Addr) (s : ByteArray) (c : Nat) (w : World) (hs : s.size ≤ 9223372036854775807) (hB0 : By w A s.size s.data.toList) (hc : s.size ≤ c) (hT : Tabs w) :
    Calls Tryd.prog 40 #[.slice A s.size c] w fun e w' => e = .returned (.bool (Lib.validD s.data.toList)) ∧ Nx w w' := by
  have u57 := run_underlying Tryd.underlying58
  have h3 : ∀ W, (Instr.slice 30 (.slice A s.size c) none (some (.int .i64 (s.size : Int))) (some (.int .i64 (s.size : Int)))).run Tryd.prog W = .ok (.slice A s.size s.size) W := fun W => by
    have he : Tryd.prog.elem 30 = 5 := by simp [Program.elem, Tryd.underlying30]
    have hz : (Go.sizeOf 5).run Tryd.prog W = .ok 1 W := by kernel_rfl
    rw [run_slice_hm W 30 A s.size c (by rw [he]; exact Tryd.underlying30) .i64 .i64 (s.size : Int) (s.size : Int) (by omega) (by omega) (by omega), he, hz]
    simp only [Result.andThen, sliced, Int.toNat_natCast, Nat.sub_zero, Nat.zero_mul]
    have := cutA_zero A s.size
    unfold cutA at this
    rw [this]
  obtain ⟨ANS, hANS⟩ : ∃ ANS, Lib.validD s.data.toList = ANS := ⟨_, rfl⟩
  rw [hANS]
  go_enter Tryd.func40, Tryd.ntmps40
  go_wp2
  clear h3
  go_loopg [0] (s.size + 1) (fun gk s0 wx => Nx w wx ∧ ∃ (t : ByteArray) (A' : Option Addr) (c' : Nat), s0 = .slice A' t.size c' ∧ By w A' t.size t.data.toList ∧ t.size ≤ c' ∧ Lib.validD t.data.toList = ANS ∧ t.size < gk ∧ t.size ≤ 9223372036854775807)
  case atStart => exact ⟨Nx.refl _, s, A, s.size, rfl, hB0, Nat.le_refl _, hANS, by omega, hs⟩
  case round =>
    obtain ⟨hbw, t, A', c', rfl, hB, hc', hv, hg, hts⟩ := hrel
    clear hANS hB0 hc hs
    have hTr := hT.next hbw
    by_cases h0 : 0 < t.size
    · obtain ⟨g', rfl⟩ : ∃ g', gk = g' + 1 := ⟨gk - 1, by omega⟩
      have h0z : (0 : Int) < (t.size : Int) := by omega
      have hBr := hB.next hbw
      obtain ⟨b, off, rfl, hb, hcell⟩ := hBr.cellsT h0
      obtain ⟨x0, hx0⟩ : ∃ x0, t.get! 0 = x0 := ⟨_, rfl⟩
      have k0 := hcell 0 h0
      rw [hx0, Nat.add_zero] at k0
      have hx0lt : x0.toNat < 256 := x0.toNat_lt
      by_cases hasc : x0.toNat < 128
      · as_aux_lemma =>
          have hascz : (x0.toNat : Int) < 128 := by omega
          have a1 : Lib.Asc t 1 := Lib.asc_one t h0 (by rw [hx0]; exact hasc)
          obtain ⟨t1, ht1⟩ : ∃ TT : ByteArray, t.extract 1 t.size = TT := ⟨_, rfl⟩
          have zt1 : t1.size + 1 = t.size := by rw [← ht1, Lib.ext_size]; omega
          have Bt1 := By.extract (k := 1) (c := c') hB (by omega) (by omega)
          have Ct1 := fun W => run_cut (P := Tryd.prog) 30 5 Tryd.underlying30 (fun _ => by kernel_rfl) (some ⟨b, off, none⟩) t.size c' .i64 1 1 rfl (by omega) W
          rw [ht1] at Bt1
          rw [show t.size - 1 = t1.size by omega] at Ct1
          obtain ⟨At1, hAt1⟩ : ∃ AA, cutA (some ⟨b, off, none⟩) c' 1 = AA := ⟨_, rfl⟩
          obtain ⟨ct1, hct1⟩ : ∃ cc, c' - 1 = cc := ⟨_, rfl⟩
          have gt1 : t1.size ≤ ct1 := by omega
          rw [hAt1] at Bt1 Ct1
          rw [hct1] at Ct1
          clear hAt1 hct1
          have v1 : Lib.validD t1.data.toList = ANS := by rw [← ht1, Lib.valid_skip t 1 a1]; exact hv
          clear hTr hT hv a1 hBr hcell hB
          by_cases c8 : 8 < t1.size
          · have c8z : (8 : Int) < (t1.size : Int) := by omega
            obtain ⟨W1, hW1⟩ : ∃ W, Lib.leNat [t1.get! 0, t1.get! 1, t1.get! 2, t1.get! 3, t1.get! 4, t1.get! 5, t1.get! 6, t1.get! 7] = W := ⟨_, rfl⟩
            have lW1 : W1 < 18446744073709551616 := hW1 ▸ Lib.word_lt t1
            have kW1 := Lib.word_asc t1 (by omega)
            rw [hW1] at kW1
            have cW1 : Hid (∀ W, Nx w W → Calls Tryd.prog 51 #[.slice At1 t1.size ct1] W fun e w' => e = .returned (.int .u64 W1) ∧ ∃ q, w' = W.drewN q) := fun W h => by rw [← hW1]; exact utf8_wordB At1 ct1 t1 W (Bt1.next h) (by omega)
            have hand1 : bits .and .u64 (W1 : Int) 9259542123273814144 = ((W1 &&& 9259542123273814144 : Nat) : Int) := u64_and_nat W1 9259542123273814144 lW1 (by omega)
            obtain ⟨Z1, hZ1⟩ : ∃ Z1, W1 &&& 9259542123273814144 = Z1 := ⟨_, rfl⟩
            rw [hZ1] at hand1 kW1
            clear hZ1 hW1
            by_cases hz1 : Z1 = 0
            · have hz1b : ((Z1 : Int) == 0) = true := by simp [hz1]
              have a8 : Lib.Asc t1 8 := kW1.1 hz1
              obtain ⟨t2, ht2⟩ : ∃ TT : ByteArray, t1.extract 8 t1.size = TT := ⟨_, rfl⟩
              have zt2 : t2.size + 8 = t1.size := by rw [← ht2, Lib.ext_size]; omega
              have Bt2 := By.extract (k := 8) (c := ct1) Bt1 (by omega) (by omega)
              have Ct2 := fun W => run_cut (P := Tryd.prog) 30 5 Tryd.underlying30 (fun _ => by kernel_rfl) At1 t1.size ct1 .i64 8 8 rfl (by omega) W
              rw [ht2] at Bt2
              rw [show t1.size - 8 = t2.size by omega] at Ct2
              obtain ⟨At2, hAt2⟩ : ∃ AA, cutA At1 ct1 8 = AA := ⟨_, rfl⟩
              obtain ⟨ct2, hct2⟩ : ∃ cc, ct1 - 8 = cc := ⟨_, rfl⟩
              have gt2 : t2.size ≤ ct2 := by omega
              rw [hAt2] at Bt2 Ct2
              rw [hct2] at Ct2
              clear hAt2 hct2
              have v2 : Lib.validD t2.data.toList = ANS := by rw [← ht2, Lib.valid_skip t1 8 a8]; exact v1
              clear kW1 a8 v1 hz1
              go_wp2_with (go_at_call 51; go_must (refine (cW1.out _ hbw).mono ?_; rintro e w1' ⟨rfl, q1, rfl⟩))
              have hb1 : Nx w (wr.drewN q1) := hbw.drewN q1
              generalize wr.drewN q1 = wq at hb1 ⊢
              clear cW1 hbw k0 Ct1 Ct2 hb Bt1
              by_cases c16 : 16 < t2.size
              · have c16z : (16 : Int) < (t2.size : Int) := by omega
                obtain ⟨t2b, ht2b⟩ : ∃ TT : ByteArray, t2.extract 8 t2.size = TT := ⟨_, rfl⟩
                have zt2b : t2b.size + 8 = t2.size := by rw [← ht2b, Lib.ext_size]; omega
                have Bt2b := By.extract (k := 8) (c := ct2) Bt2 (by omega) (by omega)
                have Ct2b := fun W => run_cut (P := Tryd.prog) 30 5 Tryd.underlying30 (fun _ => by kernel_rfl) At2 t2.size ct2 .i64 8 8 rfl (by omega) W
                rw [ht2b] at Bt2b
                rw [show t2.size - 8 = t2b.size by omega] at Ct2b
                obtain ⟨At2b, hAt2b⟩ : ∃ AA, cutA At2 ct2 8 = AA := ⟨_, rfl⟩
                obtain ⟨ct2b, hct2b⟩ : ∃ cc, ct2 - 8 = cc := ⟨_, rfl⟩
                have gt2b : t2b.size ≤ ct2b := by omega
                rw [hAt2b] at Bt2b Ct2b
                rw [hct2b] at Ct2b
                clear hAt2b hct2b
                obtain ⟨W2, hW2⟩ : ∃ W, Lib.leNat [t2.get! 0, t2.get! 1, t2.get! 2, t2.get! 3, t2.get! 4, t2.get! 5, t2.get! 6, t2.get! 7] = W := ⟨_, rfl⟩
                have lW2 : W2 < 18446744073709551616 := hW2 ▸ Lib.word_lt t2
                have kW2 := Lib.word_asc t2 (by omega)
                rw [hW2] at kW2
                have cW2 : Hid (∀ W, Nx w W → Calls Tryd.prog 51 #[.slice At2 t2.size ct2] W fun e w' => e = .returned (.int .u64 W2) ∧ ∃ q, w' = W.drewN q) := fun W h => by rw [← hW2]; exact utf8_wordB At2 ct2 t2 W (Bt2.next h) (by omega)
                obtain ⟨W3, hW3⟩ : ∃ W, Lib.leNat [t2b.get! 0, t2b.get! 1, t2b.get! 2, t2b.get! 3, t2b.get! 4, t2b.get! 5, t2b.get! 6, t2b.get! 7] = W := ⟨_, rfl⟩
                have lW3 : W3 < 18446744073709551616 := hW3 ▸ Lib.word_lt t2b
                have kW3 := Lib.word_asc t2b (by omega)
                rw [hW3] at kW3
                have cW3 : Hid (∀ W, Nx w W → Calls Tryd.prog 51 #[.slice At2b t2b.size ct2b] W fun e w' => e = .returned (.int .u64 W3) ∧ ∃ q, w' = W.drewN q) := fun W h => by rw [← hW3]; exact utf8_wordB At2b ct2b t2b W (Bt2b.next h) (by omega)
                have hor2 : bits .or .u64 (W2 : Int) (W3 : Int) = ((W2 ||| W3 : Nat) : Int) := u64_or_nat W2 W3 lW2 lW3
                have lor2 : W2 ||| W3 < 18446744073709551616 := Nat.or_lt_two_pow (n := 64) lW2 lW3
                have hand2 : bits .and .u64 ((W2 ||| W3 : Nat) : Int) 9259542123273814144 = (((W2 ||| W3) &&& 9259542123273814144 : Nat) : Int) := u64_and_nat _ 9259542123273814144 lor2 (by omega)
                have k2 : (W2 ||| W3) &&& 9259542123273814144 = 0 → Lib.Asc t2 16 := fun h0' => by
                  obtain ⟨e1, e2⟩ := (Lib.or_mask W2 W3 _).1 h0'
                  exact Lib.asc_add t2 8 8 (kW2.1 e1) (by rw [ht2b]; exact kW3.1 e2)
                obtain ⟨O2, hO2⟩ : ∃ O2, W2 ||| W3 = O2 := ⟨_, rfl⟩
                rw [hO2] at hor2 hand2 k2
                obtain ⟨Z2, hZ2⟩ : ∃ Z2, O2 &&& 9259542123273814144 = Z2 := ⟨_, rfl⟩
                rw [hZ2] at hand2 k2
                have K2 := Lib.hid k2
                clear kW2 kW3 lor2 hO2 hZ2 hW2 hW3 k2 Bt2b lW2 lW3 ht2b
                by_cases hz2 : Z2 = 0
                · as_aux_lemma =>
                    have hz2b : ((Z2 : Int) == 0) = true := by simp [hz2]
                    have a16 := K2.out hz2
                    obtain ⟨t3, ht3⟩ : ∃ TT : ByteArray, t2.extract 16 t2.size = TT := ⟨_, rfl⟩
                    have zt3 : t3.size + 16 = t2.size := by rw [← ht3, Lib.ext_size]; omega
                    have Bt3 := By.extract (k := 16) (c := ct2) Bt2 (by omega) (by omega)
                    have Ct3 := fun W => run_cut (P := Tryd.prog) 30 5 Tryd.underlying30 (fun _ => by kernel_rfl) At2 t2.size ct2 .i64 16 16 rfl (by omega) W
                    rw [ht3] at Bt3
                    rw [show t2.size - 16 = t3.size by omega] at Ct3
                    obtain ⟨At3, hAt3⟩ : ∃ AA, cutA At2 ct2 16 = AA := ⟨_, rfl⟩
                    obtain ⟨ct3, hct3⟩ : ∃ cc, ct2 - 16 = cc := ⟨_, rfl⟩
                    have gt3 : t3.size ≤ ct3 := by omega
                    rw [hAt3] at Bt3 Ct3
                    rw [hct3] at Ct3
                    clear hAt3 hct3
                    have v3 : Lib.validD t3.data.toList = ANS := by rw [← ht3, Lib.valid_skip t2 16 a16]; exact v2
                    clear a16 v2 hz2 K2
                    go_wp2_with fail
                    go_quiet (first | (go_at_call_of 51 (Value.slice At2 t2.size ct2); refine Calls.quiet_of (cW2.out _ (hb1.drewN _))) | (go_at_call_of 51 (Value.slice At2b t2b.size ct2b); refine Calls.quiet_of (cW3.out _ (hb1.drewN _))))
                    have hb2 : Nx w (wq.drewN nq) := hb1.drewN nq
                    generalize wq.drewN nq = wq2 at hb2 ⊢
                    clear cW2 cW3 hb1
                    go_wp2
                    clear Ct3 Ct2b
                    go_loopg [0] (t3.size + 1) (fun g2 s0 wx => Nx w wx ∧ ∃ (u : ByteArray) (A' : Option Addr) (c' : Nat), s0 = .slice A' u.size c' ∧ By w A' u.size u.data.toList ∧ u.size ≤ c' ∧ Lib.validD u.data.toList = ANS ∧ u.size < g2 ∧ u.size ≤ t3.size)
                    case atStart => exact ⟨hb2, t3, At3, ct3, rfl, Bt3, gt3, v3, by omega, Nat.le_refl _⟩
                    case round =>
                      obtain ⟨hbu, u, Au, cu, rfl, Bu, gu, vu, hgu, hut⟩ := hrel
                      by_cases c32 : 32 < u.size
                      · obtain ⟨g3, rfl⟩ : ∃ g3, gk = g3 + 1 := ⟨gk - 1, by omega⟩
                        have c32z : (32 : Int) < (u.size : Int) := by omega
                        obtain ⟨ub, hub⟩ : ∃ TT : ByteArray, u.extract 8 u.size = TT := ⟨_, rfl⟩
                        have zub : ub.size + 8 = u.size := by rw [← hub, Lib.ext_size]; omega
                        have Bub := By.extract (k := 8) (c := cu) Bu (by omega) (by omega)
                        have Cub := fun W => run_cut (P := Tryd.prog) 30 5 Tryd.underlying30 (fun _ => by kernel_rfl) Au u.size cu .i64 8 8 rfl (by omega) W
                        rw [hub] at Bub
                        rw [show u.size - 8 = ub.size by omega] at Cub
                        obtain ⟨Aub, hAub⟩ : ∃ AA, cutA Au cu 8 = AA := ⟨_, rfl⟩
                        obtain ⟨cub, hcub⟩ : ∃ cc, cu - 8 = cc := ⟨_, rfl⟩
                        have gub : ub.size ≤ cub := by omega
                        rw [hAub] at Bub Cub
                        rw [hcub] at Cub
                        clear hAub hcub
                        obtain ⟨uc, huc⟩ : ∃ TT : ByteArray, u.extract 16 u.size = TT := ⟨_, rfl⟩
                        have zuc : uc.size + 16 = u.size := by rw [← huc, Lib.ext_size]; omega
                        have Buc := By.extract (k := 16) (c := cu) Bu (by omega) (by omega)
                        have Cuc := fun W => run_cut (P := Tryd.prog) 30 5 Tryd.underlying30 (fun _ => by kernel_rfl) Au u.size cu .i64 16 16 rfl (by omega) W
                        rw [huc] at Buc
                        rw [show u.size - 16 = uc.size by omega] at Cuc
                        obtain ⟨Auc, hAuc⟩ : ∃ AA, cutA Au cu 16 = AA := ⟨_, rfl⟩
                        obtain ⟨cuc, hcuc⟩ : ∃ cc, cu - 16 = cc := ⟨_, rfl⟩
                        have guc : uc.size ≤ cuc := by omega
                        rw [hAuc] at Buc Cuc
                        rw [hcuc] at Cuc
                        clear hAuc hcuc
                        obtain ⟨ud, hud⟩ : ∃ TT : ByteArray, u.extract 24 u.size = TT := ⟨_, rfl⟩
                        have zud : ud.size + 24 = u.size := by rw [← hud, Lib.ext_size]; omega
                        have Bud := By.extract (k := 24) (c := cu) Bu (by omega) (by omega)
                        have Cud := fun W => run_cut (P := Tryd.prog) 30 5 Tryd.underlying30 (fun _ => by kernel_rfl) Au u.size cu .i64 24 24 rfl (by omega) W
                        rw [hud] at Bud
                        rw [show u.size - 24 = ud.size by omega] at Cud
                        obtain ⟨Aud, hAud⟩ : ∃ AA, cutA Au cu 24 = AA := ⟨_, rfl⟩
                        obtain ⟨cud, hcud⟩ : ∃ cc, cu - 24 = cc := ⟨_, rfl⟩
                        have gud : ud.size ≤ cud := by omega
                        rw [hAud] at Bud Cud
                        rw [hcud] at Cud
                        clear hAud hcud
                        obtain ⟨W4, hW4⟩ : ∃ W, Lib.leNat [u.get! 0, u.get! 1, u.get! 2, u.get! 3, u.get! 4, u.get! 5, u.get! 6, u.get! 7] = W := ⟨_, rfl⟩
                        have lW4 : W4 < 18446744073709551616 := hW4 ▸ Lib.word_lt u
                        have kW4 := Lib.word_asc u (by omega)
                        rw [hW4] at kW4
                        have cW4 : Hid (∀ W, Nx w W → Calls Tryd.prog 51 #[.slice Au u.size cu] W fun e w' => e = .returned (.int .u64 W4) ∧ ∃ q, w' = W.drewN q) := fun W h => by rw [← hW4]; exact utf8_wordB Au cu u W (Bu.next h) (by omega)
                        obtain ⟨W5, hW5⟩ : ∃ W, Lib.leNat [ub.get! 0, ub.get! 1, ub.get! 2, ub.get! 3, ub.get! 4, ub.get! 5, ub.get! 6, ub.get! 7] = W := ⟨_, rfl⟩
                        have lW5 : W5 < 18446744073709551616 := hW5 ▸ Lib.word_lt ub
                        have kW5 := Lib.word_asc ub (by omega)
                        rw [hW5] at kW5
                        have cW5 : Hid (∀ W, Nx w W → Calls Tryd.prog 51 #[.slice Aub ub.size cub] W fun e w' => e = .returned (.int .u64 W5) ∧ ∃ q, w' = W.drewN q) := fun W h => by rw [← hW5]; exact utf8_wordB Aub cub ub W (Bub.next h) (by omega)
                        obtain ⟨W6, hW6⟩ : ∃ W, Lib.leNat [uc.get! 0, uc.get! 1, uc.get! 2, uc.get! 3, uc.get! 4, uc.get! 5, uc.get! 6, uc.get! 7] = W := ⟨_, rfl⟩
                        have lW6 : W6 < 18446744073709551616 := hW6 ▸ Lib.word_lt uc
                        have kW6 := Lib.word_asc uc (by omega)
                        rw [hW6] at kW6
                        have cW6 : Hid (∀ W, Nx w W → Calls Tryd.prog 51 #[.slice Auc uc.size cuc] W fun e w' => e = .returned (.int .u64 W6) ∧ ∃ q, w' = W.drewN q) := fun W h => by rw [← hW6]; exact utf8_wordB Auc cuc uc W (Buc.next h) (by omega)
                        obtain ⟨W7, hW7⟩ : ∃ W, Lib.leNat [ud.get! 0, ud.get! 1, ud.get! 2, ud.get! 3, ud.get! 4, ud.get! 5, ud.get! 6, ud.get! 7] = W := ⟨_, rfl⟩
                        have lW7 : W7 < 18446744073709551616 := hW7 ▸ Lib.word_lt ud
                        have kW7 := Lib.word_asc ud (by omega)
                        rw [hW7] at kW7
                        have cW7 : Hid (∀ W, Nx w W → Calls Tryd.prog 51 #[.slice Aud ud.size cud] W fun e w' => e = .returned (.int .u64 W7) ∧ ∃ q, w' = W.drewN q) := fun W h => by rw [← hW7]; exact utf8_wordB Aud cud ud W (Bud.next h) (by omega)
                        have ho1 : bits .or .u64 (W4 : Int) (W5 : Int) = ((W4 ||| W5 : Nat) : Int) := u64_or_nat W4 W5 lW4 lW5
                        have ho2 : bits .or .u64 (W6 : Int) (W7 : Int) = ((W6 ||| W7 : Nat) : Int) := u64_or_nat W6 W7 lW6 lW7
                        have lo1 : W4 ||| W5 < 18446744073709551616 := Nat.or_lt_two_pow (n := 64) lW4 lW5
                        have lo2 : W6 ||| W7 < 18446744073709551616 := Nat.or_lt_two_pow (n := 64) lW6 lW7
                        have ho3 : bits .or .u64 ((W4 ||| W5 : Nat) : Int) ((W6 ||| W7 : Nat) : Int) = (((W4 ||| W5) ||| (W6 ||| W7) : Nat) : Int) := u64_or_nat _ _ lo1 lo2
                        have lo3 : (W4 ||| W5) ||| (W6 ||| W7) < 18446744073709551616 := Nat.or_lt_two_pow (n := 64) lo1 lo2
                        have hand3 : bits .and .u64 (((W4 ||| W5) ||| (W6 ||| W7) : Nat) : Int) 9259542123273814144 = ((((W4 ||| W5) ||| (W6 ||| W7)) &&& 9259542123273814144 : Nat) : Int) := u64_and_nat _ 9259542123273814144 lo3 (by omega)
                        have k3 : ((W4 ||| W5) ||| (W6 ||| W7)) &&& 9259542123273814144 = 0 → Lib.Asc u 32 := fun h0' => by
                          obtain ⟨e01, e23⟩ := (Lib.or_mask _ _ _).1 h0'
                          obtain ⟨e0, e1⟩ := (Lib.or_mask _ _ _).1 e01
                          obtain ⟨e2, e3⟩ := (Lib.or_mask _ _ _).1 e23
                          have s16 : Lib.Asc u 16 := Lib.asc_add u 8 8 (kW4.1 e0) (by rw [hub]; exact kW5.1 e1)
                          have s24 : Lib.Asc u 24 := Lib.asc_add u 16 8 s16 (by rw [huc]; exact kW6.1 e2)
                          exact Lib.asc_add u 24 8 s24 (by rw [hud]; exact kW7.1 e3)
                        obtain ⟨P1, hP1⟩ : ∃ P1, W4 ||| W5 = P1 := ⟨_, rfl⟩
                        obtain ⟨P2, hP2⟩ : ∃ P2, W6 ||| W7 = P2 := ⟨_, rfl⟩
                        rw [hP1, hP2] at ho3 hand3 k3
                        rw [hP1] at ho1
                        rw [hP2] at ho2
                        obtain ⟨P3, hP3⟩ : ∃ P3, P1 ||| P2 = P3 := ⟨_, rfl⟩
                        rw [hP3] at ho3 hand3 k3
                        obtain ⟨Z3, hZ3⟩ : ∃ Z3, P3 &&& 9259542123273814144 = Z3 := ⟨_, rfl⟩
                        rw [hZ3] at hand3 k3
                        have K3 := Lib.hid k3
                        clear kW4 kW5 kW6 kW7 lo1 lo2 lo3 hP1 hP2 hP3 hZ3 hW4 hW5 hW6 hW7 k3 Bub Buc Bud lW4 lW5 lW6 lW7 hub huc hud
                        by_cases hz3 : Z3 = 0
                        · as_aux_lemma =>
                            have hz3b : ((Z3 : Int) == 0) = true := by simp [hz3]
                            have a32 := K3.out hz3
                            obtain ⟨u2, hu2⟩ : ∃ TT : ByteArray, u.extract 32 u.size = TT := ⟨_, rfl⟩
                            have zu2 : u2.size + 32 = u.size := by rw [← hu2, Lib.ext_size]; omega
                            have Bu2 := By.extract (k := 32) (c := cu) Bu (by omega) (by omega)
                            have Cu2 := fun W => run_cut (P := Tryd.prog) 30 5 Tryd.underlying30 (fun _ => by kernel_rfl) Au u.size cu .i64 32 32 rfl (by omega) W
                            rw [hu2] at Bu2
                            rw [show u.size - 32 = u2.size by omega] at Cu2
                            obtain ⟨Au2, hAu2⟩ : ∃ AA, cutA Au cu 32 = AA := ⟨_, rfl⟩
                            obtain ⟨cu2, hcu2⟩ : ∃ cc, cu - 32 = cc := ⟨_, rfl⟩
                            have gu2 : u2.size ≤ cu2 := by omega
                            rw [hAu2] at Bu2 Cu2
                            rw [hcu2] at Cu2
                            clear hAu2 hcu2
                            have vu2 : Lib.validD u2.data.toList = ANS := by rw [← hu2, Lib.valid_skip u 32 a32]; exact vu
                            clear hz3 a32 K3
                            go_wp2_with fail
                            go_quiet (first | (go_at_call_of 51 (Value.slice Au u.size cu); refine Calls.quiet_of (cW4.out _ (hbu.drewN _))) | (go_at_call_of 51 (Value.slice Aub ub.size cub); refine Calls.quiet_of (cW5.out _ (hbu.drewN _))) | (go_at_call_of 51 (Value.slice Auc uc.size cuc); refine Calls.quiet_of (cW6.out _ (hbu.drewN _))) | (go_at_call_of 51 (Value.slice Aud ud.size cud); refine Calls.quiet_of (cW7.out _ (hbu.drewN _))))
                            go_wp2
                            go_roundg g3
                            case measure => omega
                            case rel => exact ⟨hbu.drewN nq, u2, Au2, cu2, rfl, Bu2, gu2, vu2, by omega, by omega⟩
                        · as_aux_lemma =>
                            have hz3b : ((Z3 : Int) == 0) = false := by simp; omega
                            clear hz3 K3
                            go_wp2_with fail
                            go_quiet (first | (go_at_call_of 51 (Value.slice Au u.size cu); refine Calls.quiet_of (cW4.out _ (hbu.drewN _))) | (go_at_call_of 51 (Value.slice Aub ub.size cub); refine Calls.quiet_of (cW5.out _ (hbu.drewN _))) | (go_at_call_of 51 (Value.slice Auc uc.size cuc); refine Calls.quiet_of (cW6.out _ (hbu.drewN _))) | (go_at_call_of 51 (Value.slice Aud ud.size cud); refine Calls.quiet_of (cW7.out _ (hbu.drewN _))))
                            go_wp2
                            go_roundg g'
                            case measure => omega
                            case rel => exact ⟨hbu.drewN nq, u, Au, cu, rfl, Bu, gu, vu, by omega, by omega⟩
                      · have c32z : ¬ ((32 : Int) < (u.size : Int)) := by omega
                        have c32b : decide ((32 : Int) < (u.size : Int)) = false := decide_eq_false c32z
                        go_wp2_with fail
                        go_quiet (fail)
                        go_wp2
                        go_roundg g'
                        case measure => omega
                        case rel => exact ⟨hbu.drewN nq, u, Au, cu, rfl, Bu, gu, vu, by omega, by omega⟩
                · as_aux_lemma =>
                    have hz2b : ((Z2 : Int) == 0) = false := by simp; omega
                    clear hz2 K2
                    go_wp2_with fail
                    go_quiet (first | (go_at_call_of 51 (Value.slice At2 t2.size ct2); refine Calls.quiet_of (cW2.out _ (hb1.drewN _))) | (go_at_call_of 51 (Value.slice At2b t2b.size ct2b); refine Calls.quiet_of (cW3.out _ (hb1.drewN _))))
                    go_wp2
                    go_roundg g'
                    case measure => omega
                    case rel => exact ⟨hb1.drewN nq, t2, At2, ct2, rfl, Bt2, gt2, v2, by omega, by omega⟩
              · have c16z : ¬ ((16 : Int) < (t2.size : Int)) := by omega
                have c16b : decide ((16 : Int) < (t2.size : Int)) = false := decide_eq_false c16z
                go_wp2_with fail
                go_quiet (fail)
                go_wp2
                go_roundg g'
                case measure => omega
                case rel => exact ⟨hb1.drewN nq, t2, At2, ct2, rfl, Bt2, gt2, v2, by omega, by omega⟩
            · have hz1b : ((Z1 : Int) == 0) = false := by simp; omega
              go_wp2_with (go_at_call 51; go_must (refine (cW1.out _ hbw).mono ?_; rintro e w1' ⟨rfl, q1, rfl⟩))
              go_roundg g'
              case measure => omega
              case rel => exact ⟨hbw.drewN q1, t1, At1, ct1, rfl, Bt1, gt1, v1, by omega, by omega⟩
          · have c8z : ¬ ((8 : Int) < (t1.size : Int)) := by omega
            go_wp2
            go_roundg g'
            case measure => omega
            case rel => exact ⟨hbw, t1, At1, ct1, rfl, Bt1, gt1, v1, by omega, by omega⟩
      · have hge : 128 ≤ x0.toNat := by omega
        have hascz : ¬ ((x0.toNat : Int) < 128) := by omega
        obtain ⟨x1, hx1⟩ : ∃ x1, t.get! 1 = x1 := ⟨_, rfl⟩
        obtain ⟨x2, hx2⟩ : ∃ x2, t.get! 2 = x2 := ⟨_, rfl⟩
        obtain ⟨x3, hx3⟩ : ∃ x3, t.get! 3 = x3 := ⟨_, rfl⟩
        have l1 := x1.toNat_lt; have l2 := x2.toNat_lt; have l3 := x3.toNat_lt
        have hne : t.data.toList ≠ [] := fun h => by rw [Lib.size_eq, h] at h0; simp at h0
        have hlead := Lib.validD_lead t.data.toList hne (by rw [Lib.getD_get!', hx0]; exact hge)
        rw [Lib.getD_get!', Lib.getD_get!', Lib.getD_get!', Lib.getD_get!', hx0, hx1, hx2, hx3, ← Lib.size_eq, hv] at hlead
        have hc0 := hTr.1 x0.toNat hx0lt
        have hXlt : Lib.firstT x0.toNat < 256 := by rcases Lib.firstT_cases x0.toNat with h | h | h | h | h | h | h | h | h <;> omega
        obtain ⟨X, hX⟩ : ∃ X, Lib.firstT x0.toNat = X := ⟨_, rfl⟩
        rw [hX] at hc0 hXlt hlead
        have h7 := andSeven ⟨X, hXlt⟩
        simp only at h7
        have ha0 : wr.cell? ⟨1, X / 16 * 2, none⟩ = some (.int .u8 (Lib.accLo (X / 16))) := by rw [Nat.mul_comm]; exact (hTr.2 (X / 16) (by omega)).1
        have ha1 : wr.cell? ⟨1, X / 16 * 2 + 1, none⟩ = some (.int .u8 (Lib.accHi (X / 16))) := by rw [Nat.mul_comm]; exact (hTr.2 (X / 16) (by omega)).2
        obtain ⟨LO, hLO⟩ : ∃ LO, Lib.accLo (X / 16) = LO := ⟨_, rfl⟩
        obtain ⟨HI, hHI⟩ : ∃ HI, Lib.accHi (X / 16) = HI := ⟨_, rfl⟩
        rw [hLO] at ha0 hlead
        rw [hHI] at ha1 hlead
        obtain ⟨SZ, hSZ⟩ : ∃ SZ, X % 8 = SZ := ⟨_, rfl⟩
        rw [hSZ] at hlead
        clear hTr hT hX hv hLO hHI hne hBr hx0
        by_cases s2 : SZ = 2
        · as_aux_lemma =>
            subst s2
            have hSZz : (X : Int) % 8 = 2 := by omega
            simp only [Lib.checkN, Nat.reduceEqDiff, if_true, if_false] at hlead
            have HLD := Lib.hid hlead
            clear hlead
            go_upto_region 18 with fail
            go_cut [103] from 85 to 103 (fun c wx => c = .bool (decide (t.size < 2 ∨ x1.toNat < LO ∨ HI < x1.toNat)) ∧ Nx w wx)
            case first => as_aux_lemma =>
              by_cases q0 : t.size < 2
              · have q0z : (t.size : Int) < 2 := by omega
                go_quiet (fail)
                go_wp2
                go_meet
                exact ⟨congrArg Value.bool (decide_eq_true (p := t.size < 2 ∨ x1.toNat < LO ∨ HI < x1.toNat) (by omega)).symm, (hbw.alloc _).drewN _⟩
              · have q0z : ¬ ((t.size : Int) < 2) := by omega
                have q0b : decide ((t.size : Int) < 2) = false := decide_eq_false q0z
                have hz1 : (1 : Int) < (t.size : Int) := by omega
                have k1 := hcell 1 (by omega)
                rw [hx1] at k1
                clear hcell
                by_cases q1 : x1.toNat < LO
                · have q1z : (x1.toNat : Int) < (LO : Int) := by omega
                  go_quiet (fail)
                  go_wp2
                  go_meet
                  exact ⟨congrArg Value.bool (decide_eq_true (p := t.size < 2 ∨ x1.toNat < LO ∨ HI < x1.toNat) (by omega)).symm, (hbw.alloc _).drewN _⟩
                · have q1z : ¬ ((x1.toNat : Int) < (LO : Int)) := by omega
                  have q1b : decide ((x1.toNat : Int) < (LO : Int)) = false := decide_eq_false q1z
                  by_cases q2 : HI < x1.toNat
                  · have q2z : (HI : Int) < (x1.toNat : Int) := by omega
                    go_quiet (fail)
                    go_wp2
                    go_meet
                    exact ⟨congrArg Value.bool (decide_eq_true (p := t.size < 2 ∨ x1.toNat < LO ∨ HI < x1.toNat) (by omega)).symm, (hbw.alloc _).drewN _⟩
                  · have q2z : ¬ ((HI : Int) < (x1.toNat : Int)) := by omega
                    have q2b : decide ((HI : Int) < (x1.toNat : Int)) = false := decide_eq_false q2z
                    go_quiet (fail)
                    go_wp2
                    go_meet
                    exact ⟨congrArg Value.bool (decide_eq_false (p := t.size < 2 ∨ x1.toNat < LO ∨ HI < x1.toNat) (by omega)).symm, (hbw.alloc _).drewN _⟩
            case rest =>
              obtain ⟨rfl, hbc⟩ := hcut
              by_cases hbb : t.size < 2 ∨ x1.toNat < LO ∨ HI < x1.toNat
              · have hbd : decide (t.size < 2 ∨ x1.toNat < LO ∨ HI < x1.toNat) = true := decide_eq_true hbb
                have hlead := HLD.out
                rw [if_pos hbb] at hlead
                have HL2 := Lib.hid hlead
                clear hlead hcell
                go_wp2
                all_goals (go_ret; exact ⟨ret_bool HL2.out.symm, hbc⟩)
              · have hbd : decide (t.size < 2 ∨ x1.toNat < LO ∨ HI < x1.toNat) = false := decide_eq_false hbb
                have hlead := HLD.out
                rw [if_neg hbb] at hlead
                have HL2 := Lib.hid hlead
                clear hlead hcell
                obtain ⟨t1, ht1⟩ : ∃ TT : ByteArray, t.extract 2 t.size = TT := ⟨_, rfl⟩
                have zt1 : t1.size + 2 = t.size := by rw [← ht1, Lib.ext_size]; omega
                have Bt1 := By.extract (k := 2) (c := c') hB (by omega) (by omega)
                have Ct1 := fun W => run_cut (P := Tryd.prog) 30 5 Tryd.underlying30 (fun _ => by kernel_rfl) (some ⟨b, off, none⟩) t.size c' .i64 2 2 rfl (by omega) W
                rw [ht1] at Bt1
                rw [show t.size - 2 = t1.size by omega] at Ct1
                obtain ⟨At1, hAt1⟩ : ∃ AA, cutA (some ⟨b, off, none⟩) c' 2 = AA := ⟨_, rfl⟩
                obtain ⟨ct1, hct1⟩ : ∃ cc, c' - 2 = cc := ⟨_, rfl⟩
                have gt1 : t1.size ≤ ct1 := by omega
                rw [hAt1] at Bt1 Ct1
                rw [hct1] at Ct1
                clear hAt1 hct1
                go_wp2
                go_roundg g'
                case measure => omega
                case rel => exact ⟨hbc, t1, At1, ct1, rfl, Bt1, gt1, by rw [← ht1, Lib.ext_list]; exact HL2.out.symm, by omega, by omega⟩
        by_cases s3 : SZ = 3
        · as_aux_lemma =>
            subst s3
            have hSZz : (X : Int) % 8 = 3 := by omega
            simp only [Lib.checkN, Nat.reduceEqDiff, if_true, if_false] at hlead
            have HLD := Lib.hid hlead
            clear hlead
            go_upto_region 22 with fail
            go_cut [138] from 108 to 138 (fun c wx => c = .bool (decide (t.size < 3 ∨ x1.toNat < LO ∨ HI < x1.toNat ∨ x2.toNat < 128 ∨ 191 < x2.toNat)) ∧ Nx w wx)
            case first => as_aux_lemma =>
              by_cases q0 : t.size < 3
              · have q0z : (t.size : Int) < 3 := by omega
                go_quiet (fail)
                go_wp2
                go_meet
                exact ⟨congrArg Value.bool (decide_eq_true (p := t.size < 3 ∨ x1.toNat < LO ∨ HI < x1.toNat ∨ x2.toNat < 128 ∨ 191 < x2.toNat) (by omega)).symm, (hbw.alloc _).drewN _⟩
              · have q0z : ¬ ((t.size : Int) < 3) := by omega
                have q0b : decide ((t.size : Int) < 3) = false := decide_eq_false q0z
                have hz1 : (1 : Int) < (t.size : Int) := by omega
                have k1 := hcell 1 (by omega)
                rw [hx1] at k1
                have hz2 : (2 : Int) < (t.size : Int) := by omega
                have k2 := hcell 2 (by omega)
                rw [hx2] at k2
                clear hcell
                by_cases q1 : x1.toNat < LO
                · have q1z : (x1.toNat : Int) < (LO : Int) := by omega
                  go_quiet (fail)
                  go_wp2
                  go_meet
                  exact ⟨congrArg Value.bool (decide_eq_true (p := t.size < 3 ∨ x1.toNat < LO ∨ HI < x1.toNat ∨ x2.toNat < 128 ∨ 191 < x2.toNat) (by omega)).symm, (hbw.alloc _).drewN _⟩
                · have q1z : ¬ ((x1.toNat : Int) < (LO : Int)) := by omega
                  have q1b : decide ((x1.toNat : Int) < (LO : Int)) = false := decide_eq_false q1z
                  by_cases q2 : HI < x1.toNat
                  · have q2z : (HI : Int) < (x1.toNat : Int) := by omega
                    go_quiet (fail)
                    go_wp2
                    go_meet
                    exact ⟨congrArg Value.bool (decide_eq_true (p := t.size < 3 ∨ x1.toNat < LO ∨ HI < x1.toNat ∨ x2.toNat < 128 ∨ 191 < x2.toNat) (by omega)).symm, (hbw.alloc _).drewN _⟩
                  · have q2z : ¬ ((HI : Int) < (x1.toNat : Int)) := by omega
                    have q2b : decide ((HI : Int) < (x1.toNat : Int)) = false := decide_eq_false q2z
                    by_cases q3 : x2.toNat < 128
                    · have q3z : (x2.toNat : Int) < 128 := by omega
                      go_quiet (fail)
                      go_wp2
                      go_meet
                      exact ⟨congrArg Value.bool (decide_eq_true (p := t.size < 3 ∨ x1.toNat < LO ∨ HI < x1.toNat ∨ x2.toNat < 128 ∨ 191 < x2.toNat) (by omega)).symm, (hbw.alloc _).drewN _⟩
                    · have q3z : ¬ ((x2.toNat : Int) < 128) := by omega
                      have q3b : decide ((x2.toNat : Int) < 128) = false := decide_eq_false q3z
                      by_cases q4 : 191 < x2.toNat
                      · have q4z : (191 : Int) < (x2.toNat : Int) := by omega
                        go_quiet (fail)
                        go_wp2
                        go_meet
                        exact ⟨congrArg Value.bool (decide_eq_true (p := t.size < 3 ∨ x1.toNat < LO ∨ HI < x1.toNat ∨ x2.toNat < 128 ∨ 191 < x2.toNat) (by omega)).symm, (hbw.alloc _).drewN _⟩
                      · have q4z : ¬ ((191 : Int) < (x2.toNat : Int)) := by omega
                        have q4b : decide ((191 : Int) < (x2.toNat : Int)) = false := decide_eq_false q4z
                        go_quiet (fail)
                        go_wp2
                        go_meet
                        exact ⟨congrArg Value.bool (decide_eq_false (p := t.size < 3 ∨ x1.toNat < LO ∨ HI < x1.toNat ∨ x2.toNat < 128 ∨ 191 < x2.toNat) (by omega)).symm, (hbw.alloc _).drewN _⟩
            case rest =>
              obtain ⟨rfl, hbc⟩ := hcut
              by_cases hbb : t.size < 3 ∨ x1.toNat < LO ∨ HI < x1.toNat ∨ x2.toNat < 128 ∨ 191 < x2.toNat
              · have hbd : decide (t.size < 3 ∨ x1.toNat < LO ∨ HI < x1.toNat ∨ x2.toNat < 128 ∨ 191 < x2.toNat) = true := decide_eq_true hbb
                have hlead := HLD.out
                rw [if_pos hbb] at hlead
                have HL2 := Lib.hid hlead
                clear hlead hcell
                go_wp2
                all_goals (go_ret; exact ⟨ret_bool HL2.out.symm, hbc⟩)
              · have hbd : decide (t.size < 3 ∨ x1.toNat < LO ∨ HI < x1.toNat ∨ x2.toNat < 128 ∨ 191 < x2.toNat) = false := decide_eq_false hbb
                have hlead := HLD.out
                rw [if_neg hbb] at hlead
                have HL2 := Lib.hid hlead
                clear hlead hcell
                obtain ⟨t1, ht1⟩ : ∃ TT : ByteArray, t.extract 3 t.size = TT := ⟨_, rfl⟩
                have zt1 : t1.size + 3 = t.size := by rw [← ht1, Lib.ext_size]; omega
                have Bt1 := By.extract (k := 3) (c := c') hB (by omega) (by omega)
                have Ct1 := fun W => run_cut (P := Tryd.prog) 30 5 Tryd.underlying30 (fun _ => by kernel_rfl) (some ⟨b, off, none⟩) t.size c' .i64 3 3 rfl (by omega) W
                rw [ht1] at Bt1
                rw [show t.size - 3 = t1.size by omega] at Ct1
                obtain ⟨At1, hAt1⟩ : ∃ AA, cutA (some ⟨b, off, none⟩) c' 3 = AA := ⟨_, rfl⟩
                obtain ⟨ct1, hct1⟩ : ∃ cc, c' - 3 = cc := ⟨_, rfl⟩
                have gt1 : t1.size ≤ ct1 := by omega
                rw [hAt1] at Bt1 Ct1
                rw [hct1] at Ct1
                clear hAt1 hct1
                go_wp2
                go_roundg g'
                case measure => omega
                case rel => exact ⟨hbc, t1, At1, ct1, rfl, Bt1, gt1, by rw [← ht1, Lib.ext_list]; exact HL2.out.symm, by omega, by omega⟩
        by_cases s4 : SZ = 4
        · as_aux_lemma =>
            subst s4
            have hSZz : (X : Int) % 8 = 4 := by omega
            simp only [Lib.checkN, Nat.reduceEqDiff, if_true, if_false] at hlead
            have HLD := Lib.hid hlead
            clear hlead
            go_upto_region 26 with fail
            go_cut [185] from 143 to 185 (fun c wx => c = .bool (decide (t.size < 4 ∨ x1.toNat < LO ∨ HI < x1.toNat ∨ x2.toNat < 128 ∨ 191 < x2.toNat ∨ x3.toNat < 128 ∨ 191 < x3.toNat)) ∧ Nx w wx)
            case first => as_aux_lemma =>
              by_cases q0 : t.size < 4
              · have q0z : (t.size : Int) < 4 := by omega
                go_quiet (fail)
                go_wp2
                go_meet
                exact ⟨congrArg Value.bool (decide_eq_true (p := t.size < 4 ∨ x1.toNat < LO ∨ HI < x1.toNat ∨ x2.toNat < 128 ∨ 191 < x2.toNat ∨ x3.toNat < 128 ∨ 191 < x3.toNat) (by omega)).symm, (hbw.alloc _).drewN _⟩
              · have q0z : ¬ ((t.size : Int) < 4) := by omega
                have q0b : decide ((t.size : Int) < 4) = false := decide_eq_false q0z
                have hz1 : (1 : Int) < (t.size : Int) := by omega
                have k1 := hcell 1 (by omega)
                rw [hx1] at k1
                have hz2 : (2 : Int) < (t.size : Int) := by omega
                have k2 := hcell 2 (by omega)
                rw [hx2] at k2
                have hz3 : (3 : Int) < (t.size : Int) := by omega
                have k3 := hcell 3 (by omega)
                rw [hx3] at k3
                clear hcell
                by_cases q1 : x1.toNat < LO
                · have q1z : (x1.toNat : Int) < (LO : Int) := by omega
                  go_quiet (fail)
                  go_wp2
                  go_meet
                  exact ⟨congrArg Value.bool (decide_eq_true (p := t.size < 4 ∨ x1.toNat < LO ∨ HI < x1.toNat ∨ x2.toNat < 128 ∨ 191 < x2.toNat ∨ x3.toNat < 128 ∨ 191 < x3.toNat) (by omega)).symm, (hbw.alloc _).drewN _⟩
                · have q1z : ¬ ((x1.toNat : Int) < (LO : Int)) := by omega
                  have q1b : decide ((x1.toNat : Int) < (LO : Int)) = false := decide_eq_false q1z
                  by_cases q2 : HI < x1.toNat
                  · have q2z : (HI : Int) < (x1.toNat : Int) := by omega
                    go_quiet (fail)
                    go_wp2
                    go_meet
                    exact ⟨congrArg Value.bool (decide_eq_true (p := t.size < 4 ∨ x1.toNat < LO ∨ HI < x1.toNat ∨ x2.toNat < 128 ∨ 191 < x2.toNat ∨ x3.toNat < 128 ∨ 191 < x3.toNat) (by omega)).symm, (hbw.alloc _).drewN _⟩
                  · have q2z : ¬ ((HI : Int) < (x1.toNat : Int)) := by omega
                    have q2b : decide ((HI : Int) < (x1.toNat : Int)) = false := decide_eq_false q2z
                    by_cases q3 : x2.toNat < 128
                    · have q3z : (x2.toNat : Int) < 128 := by omega
                      go_quiet (fail)
                      go_wp2
                      go_meet
                      exact ⟨congrArg Value.bool (decide_eq_true (p := t.size < 4 ∨ x1.toNat < LO ∨ HI < x1.toNat ∨ x2.toNat < 128 ∨ 191 < x2.toNat ∨ x3.toNat < 128 ∨ 191 < x3.toNat) (by omega)).symm, (hbw.alloc _).drewN _⟩
                    · have q3z : ¬ ((x2.toNat : Int) < 128) := by omega
                      have q3b : decide ((x2.toNat : Int) < 128) = false := decide_eq_false q3z
                      by_cases q4 : 191 < x2.toNat
                      · have q4z : (191 : Int) < (x2.toNat : Int) := by omega
                        go_quiet (fail)
                        go_wp2
                        go_meet
                        exact ⟨congrArg Value.bool (decide_eq_true (p := t.size < 4 ∨ x1.toNat < LO ∨ HI < x1.toNat ∨ x2.toNat < 128 ∨ 191 < x2.toNat ∨ x3.toNat < 128 ∨ 191 < x3.toNat) (by omega)).symm, (hbw.alloc _).drewN _⟩
                      · have q4z : ¬ ((191 : Int) < (x2.toNat : Int)) := by omega
                        have q4b : decide ((191 : Int) < (x2.toNat : Int)) = false := decide_eq_false q4z
                        by_cases q5 : x3.toNat < 128
                        · have q5z : (x3.toNat : Int) < 128 := by omega
                          go_quiet (fail)
                          go_wp2
                          go_meet
                          exact ⟨congrArg Value.bool (decide_eq_true (p := t.size < 4 ∨ x1.toNat < LO ∨ HI < x1.toNat ∨ x2.toNat < 128 ∨ 191 < x2.toNat ∨ x3.toNat < 128 ∨ 191 < x3.toNat) (by omega)).symm, (hbw.alloc _).drewN _⟩
                        · have q5z : ¬ ((x3.toNat : Int) < 128) := by omega
                          have q5b : decide ((x3.toNat : Int) < 128) = false := decide_eq_false q5z
                          by_cases q6 : 191 < x3.toNat
                          · have q6z : (191 : Int) < (x3.toNat : Int) := by omega
                            go_quiet (fail)
                            go_wp2
                            go_meet
                            exact ⟨congrArg Value.bool (decide_eq_true (p := t.size < 4 ∨ x1.toNat < LO ∨ HI < x1.toNat ∨ x2.toNat < 128 ∨ 191 < x2.toNat ∨ x3.toNat < 128 ∨ 191 < x3.toNat) (by omega)).symm, (hbw.alloc _).drewN _⟩
                          · have q6z : ¬ ((191 : Int) < (x3.toNat : Int)) := by omega
                            have q6b : decide ((191 : Int) < (x3.toNat : Int)) = false := decide_eq_false q6z
                            go_quiet (fail)
                            go_wp2
                            go_meet
                            exact ⟨congrArg Value.bool (decide_eq_false (p := t.size < 4 ∨ x1.toNat < LO ∨ HI < x1.toNat ∨ x2.toNat < 128 ∨ 191 < x2.toNat ∨ x3.toNat < 128 ∨ 191 < x3.toNat) (by omega)).symm, (hbw.alloc _).drewN _⟩
            case rest =>
              obtain ⟨rfl, hbc⟩ := hcut
              by_cases hbb : t.size < 4 ∨ x1.toNat < LO ∨ HI < x1.toNat ∨ x2.toNat < 128 ∨ 191 < x2.toNat ∨ x3.toNat < 128 ∨ 191 < x3.toNat
              · have hbd : decide (t.size < 4 ∨ x1.toNat < LO ∨ HI < x1.toNat ∨ x2.toNat < 128 ∨ 191 < x2.toNat ∨ x3.toNat < 128 ∨ 191 < x3.toNat) = true := decide_eq_true hbb
                have hlead := HLD.out
                rw [if_pos hbb] at hlead
                have HL2 := Lib.hid hlead
                clear hlead hcell
                go_wp2
                all_goals (go_ret; exact ⟨ret_bool HL2.out.symm, hbc⟩)
              · have hbd : decide (t.size < 4 ∨ x1.toNat < LO ∨ HI < x1.toNat ∨ x2.toNat < 128 ∨ 191 < x2.toNat ∨ x3.toNat < 128 ∨ 191 < x3.toNat) = false := decide_eq_false hbb
                have hlead := HLD.out
                rw [if_neg hbb] at hlead
                have HL2 := Lib.hid hlead
                clear hlead hcell
                obtain ⟨t1, ht1⟩ : ∃ TT : ByteArray, t.extract 4 t.size = TT := ⟨_, rfl⟩
                have zt1 : t1.size + 4 = t.size := by rw [← ht1, Lib.ext_size]; omega
                have Bt1 := By.extract (k := 4) (c := c') hB (by omega) (by omega)
                have Ct1 := fun W => run_cut (P := Tryd.prog) 30 5 Tryd.underlying30 (fun _ => by kernel_rfl) (some ⟨b, off, none⟩) t.size c' .i64 4 4 rfl (by omega) W
                rw [ht1] at Bt1
                rw [show t.size - 4 = t1.size by omega] at Ct1
                obtain ⟨At1, hAt1⟩ : ∃ AA, cutA (some ⟨b, off, none⟩) c' 4 = AA := ⟨_, rfl⟩
                obtain ⟨ct1, hct1⟩ : ∃ cc, c' - 4 = cc := ⟨_, rfl⟩
                have gt1 : t1.size ≤ ct1 := by omega
                rw [hAt1] at Bt1 Ct1
                rw [hct1] at Ct1
                clear hAt1 hct1
                go_wp2
                go_roundg g'
                case measure => omega
                case rel => exact ⟨hbc, t1, At1, ct1, rfl, Bt1, gt1, by rw [← ht1, Lib.ext_list]; exact HL2.out.symm, by omega, by omega⟩
        · as_aux_lemma =>
            have e2b : (((X : Int) % 8) == 2) = false := by simp; omega
            have e3b : (((X : Int) % 8) == 3) = false := by simp; omega
            have e4b : (((X : Int) % 8) == 4) = false := by simp; omega
            simp only [Lib.checkN, s2, s3, s4, if_false] at hlead
            have HL2 := Lib.hid hlead
            clear hlead hcell
            go_wp2
            all_goals (go_ret; exact ⟨ret_bool HL2.out.symm, hbw.alloc _⟩)
    · have h0z : ¬ ((0 : Int) < (t.size : Int)) := by omega
      have ht0 : t.data.toList = [] := List.eq_nil_of_length_eq_zero (by rw [← Lib.size_eq]; omega)
      rw [ht0, Lib.validD_nil] at hv
      subst hv
      go_wp2
      go_ret
      exact ⟨rfl, hbw⟩
theorem utf8_valid (A : Option Addr) (n c : Nat) (l : List UInt8) (w : World) (hT : Tabs w) (hl : By w A n l) (hc : n ≤ c) (hn : n ≤ 9223372036854775807) :
    Calls Tryd.prog 40 #[.slice A n c] w fun e w' => e = .returned (.bool (validB l)) ∧ Nx w w' := by
  have hlen := hl.len
  have hsz : (strOf l).size = n := by rw [strOf_size, hlen]
  have h := utf8_validT A (strOf l) c w (by omega) (by rw [hsz, strOf_data]; exact hl) (by omega) hT
  rw [hsz, strOf_data, validD_eqU] at h
  exact h
set_option maxHeartbeats 400000 in
theorem valid_any (A : Option Addr) (n c : Nat) (l : List UInt8) (w : World) (hT : Tabs w) (hl : By w A n l) (hc : n ≤ c) (hn : n ≤ 9223372036854775807) :
    Calls Tryd.prog 20 #[.slice A n c] w fun e w' => e = .returned (.bool (validB l)) ∧ Nx w w' := by
  have cd := utf8_valid A n c l w hT hl hc hn
  obtain ⟨R, hR⟩ : ∃ R, validB l = R := ⟨_, rfl⟩
  rw [hR] at cd ⊢
  clear hR
  go_enter Tryd.func20, Tryd.ntmps20
  go_wp2_with (go_at_call 40; refine cd.mono ?_; rintro e w1 ⟨rfl, hn1⟩)
  go_ret
  exact ⟨rfl, hn1⟩
end Go.Proofs.YtdhofjhmbdeibaaDoor
