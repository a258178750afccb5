/- Contracts: FullRune and FullRuneInString, by unicode/utf8 and through impl. -/
import Derived.Test.YtdhofjhmbdeibaaDoorTabs
import Derived.Test.YtdhofjhmbdeibaaDoorPlainD
import Derived.Deep.QuietTactic
import Derived.BigQuiet
namespace Go.Proofs.YtdhofjhmbdeibaaDoor
open Go.RowKit Go.Lib
set_option linter.unusedVariables false
section
variable {l : List UInt8} {n x : Nat} {x0 x1 x2 : UInt8}
theorem full_ge (hl : l.length = n) (h0 : l.getD 0 0 = x0) (hx : firstT x0.toNat = x) (hn : 0 < n) (h : x % 8 ≤ n) : fullB l = true := by
  unfold fullB
  rw [hl, h0, hx, if_neg (by omega), if_pos h]
theorem full_1 (hl : l.length = 1) (h0 : l.getD 0 0 = x0) (hx : firstT x0.toNat = x) (h : 1 < x % 8) : fullB l = false := by
  unfold fullB
  rw [hl, h0, hx, if_neg (by omega), if_neg (by omega), if_neg (by omega), if_neg (by omega)]
theorem full_lo (hl : l.length = n) (h0 : l.getD 0 0 = x0) (h1 : l.getD 1 0 = x1) (hx : firstT x0.toNat = x) (hn : 1 < n) (h : n < x % 8) (hb : x1.toNat < accLo (x / 16) ∨ accHi (x / 16) < x1.toNat) : fullB l = true := by
  unfold fullB
  rw [hl, h0, h1, hx, if_neg (by omega), if_neg (by omega), if_pos ⟨hn, hb⟩]
theorem full_2 (hl : l.length = 2) (h0 : l.getD 0 0 = x0) (h1 : l.getD 1 0 = x1) (hx : firstT x0.toNat = x) (h : 2 < x % 8) (hb : ¬ (x1.toNat < accLo (x / 16) ∨ accHi (x / 16) < x1.toNat)) : fullB l = false := by
  unfold fullB
  rw [hl, h0, h1, hx, if_neg (by omega), if_neg (by omega), if_neg (fun h => hb h.2), if_neg (by omega)]
theorem full_c (hl : l.length = 3) (h0 : l.getD 0 0 = x0) (h1 : l.getD 1 0 = x1) (h2 : l.getD 2 0 = x2) (hx : firstT x0.toNat = x) (h : 3 < x % 8) (hb : ¬ (x1.toNat < accLo (x / 16) ∨ accHi (x / 16) < x1.toNat)) (hc : x2.toNat < 128 ∨ 191 < x2.toNat) : fullB l = true := by
  unfold fullB
  rw [hl, h0, h1, h2, hx, if_neg (by omega), if_neg (by omega), if_neg (fun h => hb h.2), if_pos ⟨by omega, hc⟩]
theorem full_3 (hl : l.length = 3) (h0 : l.getD 0 0 = x0) (h1 : l.getD 1 0 = x1) (h2 : l.getD 2 0 = x2) (hx : firstT x0.toNat = x) (h : 3 < x % 8) (hb : ¬ (x1.toNat < accLo (x / 16) ∨ accHi (x / 16) < x1.toNat)) (hc : ¬ (x2.toNat < 128 ∨ 191 < x2.toNat)) : fullB l = false := by
  unfold fullB
  rw [hl, h0, h1, h2, hx, if_neg (by omega), if_neg (by omega), if_neg (fun h => hb h.2), if_neg (fun h => hc h.2)]
end
set_option maxHeartbeats 4000000 in
set_option maxRecDepth 1000000 in
theorem utf8_full (A : Option Addr) (n c : Nat) (l : List UInt8) (w : World) (hT : Tabs w) (hl : By w A n l) (hn' : n ≤ 9223372036854775807) :
    Calls Tryd.prog 45 #[.slice A n c] w fun e w' => e = .returned (.bool (fullB l)) ∧ Nx w w' := by
  have hlen := hl.len
  by_cases h0 : n = 0
  · subst h0
    have : l = [] := List.eq_nil_of_length_eq_zero hlen
    subst this
    rw [full_nil]
    go_enter Tryd.func45, Tryd.ntmps45
    go_wp2_with fail
    go_ret
    exact ⟨rfl, Nx.refl _⟩
  · obtain ⟨b, off, rfl, hb, hc⟩ := hl.open_ (by omega)
    have h0z : ((n : Int) == 0) = false := by simp; omega
    have h0i : (0 : Int) < (n : Int) := by omega
    obtain ⟨x0, hx0⟩ : ∃ x0, l.getD 0 0 = x0 := ⟨_, rfl⟩
    obtain ⟨x1, hx1⟩ : ∃ x1, l.getD 1 0 = x1 := ⟨_, rfl⟩
    obtain ⟨x2, hx2⟩ : ∃ x2, l.getD 2 0 = x2 := ⟨_, rfl⟩
    have q0 := hc 0 (by omega)
    rw [hx0, Nat.add_zero] at q0
    have l0 := x0.toNat_lt
    have l1 := x1.toNat_lt
    have l2 := x2.toNat_lt
    have hc0 := hT.1 x0.toNat (by omega)
    have hT := Lib.hid hT
    have hq1 := Lib.hid fun h => (hx1 ▸ hc 1 h : w.cell? ⟨b, off + 1, none⟩ = some (.int .u8 (x1.toNat : Int)))
    have hq2 := Lib.hid fun h => (hx2 ▸ hc 2 h : w.cell? ⟨b, off + 2, none⟩ = some (.int .u8 (x2.toNat : Int)))
    have hlen := Lib.hid hlen
    have hx0 := Lib.hid hx0
    have hx1 := Lib.hid hx1
    have hx2 := Lib.hid hx2
    clear hc hl
    have hcs : Hid (firstT x0.toNat = 240) ∨ Hid (firstT x0.toNat = 241) ∨ Hid (firstT x0.toNat = 2) ∨ Hid (firstT x0.toNat = 19) ∨ Hid (firstT x0.toNat = 3) ∨ Hid (firstT x0.toNat = 35) ∨ Hid (firstT x0.toNat = 52) ∨ Hid (firstT x0.toNat = 4) ∨ Hid (firstT x0.toNat = 68) := Lib.firstT_cases x0.toNat
    rcases hcs with hX | hX | hX | hX | hX | hX | hX | hX | hX
    · rw [hX.out] at hc0
      rw [full_ge hlen.out hx0.out hX.out (by omega) (by omega)]
      go_enter Tryd.func45, Tryd.ntmps45
      go_wp2_with fail
      go_ret
      exact ⟨rfl, Nx.refl _⟩
    · rw [hX.out] at hc0
      rw [full_ge hlen.out hx0.out hX.out (by omega) (by omega)]
      go_enter Tryd.func45, Tryd.ntmps45
      go_wp2_with fail
      go_ret
      exact ⟨rfl, Nx.refl _⟩
    · have ha0 := (hT.out.2 0 (by omega)).1
      have ha1 := (hT.out.2 0 (by omega)).2
      simp only [accLo, accHi, Nat.reduceMul, Nat.reduceAdd, Nat.reduceEqDiff, if_true, if_false] at ha0 ha1
      rw [hX.out] at hc0
      by_cases hn : 2 ≤ n
      · rw [full_ge hlen.out hx0.out hX.out (by omega) (by simpa using hn)]
        have hnz : (2 : Int) ≤ (n : Int) := by omega
        go_enter Tryd.func45, Tryd.ntmps45
        go_wp2_with fail
        go_ret
        exact ⟨rfl, Nx.refl _⟩
      · obtain rfl : n = 1 := by omega
        rw [full_1 hlen.out hx0.out hX.out (by decide)]
        go_enter Tryd.func45, Tryd.ntmps45
        go_wp2_with fail
        go_quiet (fail)
        go_wp2_with fail
        go_ret
        exact ⟨rfl, ((Nx.refl _).alloc _).drewN _⟩
    · have ha0 := (hT.out.2 1 (by omega)).1
      have ha1 := (hT.out.2 1 (by omega)).2
      simp only [accLo, accHi, Nat.reduceMul, Nat.reduceAdd, Nat.reduceEqDiff, if_true, if_false] at ha0 ha1
      rw [hX.out] at hc0
      by_cases hn : 3 ≤ n
      · rw [full_ge hlen.out hx0.out hX.out (by omega) (by simpa using hn)]
        have hnz : (3 : Int) ≤ (n : Int) := by omega
        go_enter Tryd.func45, Tryd.ntmps45
        go_wp2_with fail
        go_ret
        exact ⟨rfl, Nx.refl _⟩
      · by_cases h1 : n = 1
        · obtain rfl : n = 1 := by omega
          rw [full_1 hlen.out hx0.out hX.out (by decide)]
          go_enter Tryd.func45, Tryd.ntmps45
          go_wp2_with fail
          go_quiet (fail)
          go_wp2_with fail
          go_ret
          exact ⟨rfl, ((Nx.refl _).alloc _).drewN _⟩
        · obtain rfl : n = 2 := by omega
          have q1 := hq1.out (by omega)
          by_cases hb : x1.toNat < 160
          · have hbz : (x1.toNat : Int) < 160 := by omega
            rw [full_lo hlen.out hx0.out hx1.out hX.out (by decide) (by decide) (by rw [show accLo (19 / 16) = 160 from by decide, show accHi (19 / 16) = 191 from by decide]; omega)]
            go_enter Tryd.func45, Tryd.ntmps45
            go_wp2_with fail
            go_quiet (fail)
            go_wp2_with fail
            go_ret
            exact ⟨rfl, ((Nx.refl _).alloc _).drewN _⟩
          · have hbz : decide ((x1.toNat : Int) < 160) = false := by simp; omega
            by_cases hc : 191 < x1.toNat
            · have hcz : (191 : Int) < (x1.toNat : Int) := by omega
              rw [full_lo hlen.out hx0.out hx1.out hX.out (by decide) (by decide) (by rw [show accLo (19 / 16) = 160 from by decide, show accHi (19 / 16) = 191 from by decide]; omega)]
              go_enter Tryd.func45, Tryd.ntmps45
              go_wp2_with fail
              go_quiet (fail)
              go_wp2_with fail
              go_ret
              exact ⟨rfl, ((Nx.refl _).alloc _).drewN _⟩
            · have hcz : decide ((191 : Int) < (x1.toNat : Int)) = false := by simp; omega
              rw [full_2 hlen.out hx0.out hx1.out hX.out (by decide) (by rw [show accLo (19 / 16) = 160 from by decide, show accHi (19 / 16) = 191 from by decide]; omega)]
              go_enter Tryd.func45, Tryd.ntmps45
              go_wp2_with fail
              go_quiet (fail)
              go_wp2_with fail
              go_ret
              exact ⟨rfl, ((Nx.refl _).alloc _).drewN _⟩
    · have ha0 := (hT.out.2 0 (by omega)).1
      have ha1 := (hT.out.2 0 (by omega)).2
      simp only [accLo, accHi, Nat.reduceMul, Nat.reduceAdd, Nat.reduceEqDiff, if_true, if_false] at ha0 ha1
      rw [hX.out] at hc0
      by_cases hn : 3 ≤ n
      · rw [full_ge hlen.out hx0.out hX.out (by omega) (by simpa using hn)]
        have hnz : (3 : Int) ≤ (n : Int) := by omega
        go_enter Tryd.func45, Tryd.ntmps45
        go_wp2_with fail
        go_ret
        exact ⟨rfl, Nx.refl _⟩
      · by_cases h1 : n = 1
        · obtain rfl : n = 1 := by omega
          rw [full_1 hlen.out hx0.out hX.out (by decide)]
          go_enter Tryd.func45, Tryd.ntmps45
          go_wp2_with fail
          go_quiet (fail)
          go_wp2_with fail
          go_ret
          exact ⟨rfl, ((Nx.refl _).alloc _).drewN _⟩
        · obtain rfl : n = 2 := by omega
          have q1 := hq1.out (by omega)
          by_cases hb : x1.toNat < 128
          · have hbz : (x1.toNat : Int) < 128 := by omega
            rw [full_lo hlen.out hx0.out hx1.out hX.out (by decide) (by decide) (by rw [show accLo (3 / 16) = 128 from by decide, show accHi (3 / 16) = 191 from by decide]; omega)]
            go_enter Tryd.func45, Tryd.ntmps45
            go_wp2_with fail
            go_quiet (fail)
            go_wp2_with fail
            go_ret
            exact ⟨rfl, ((Nx.refl _).alloc _).drewN _⟩
          · have hbz : decide ((x1.toNat : Int) < 128) = false := by simp; omega
            by_cases hc : 191 < x1.toNat
            · have hcz : (191 : Int) < (x1.toNat : Int) := by omega
              rw [full_lo hlen.out hx0.out hx1.out hX.out (by decide) (by decide) (by rw [show accLo (3 / 16) = 128 from by decide, show accHi (3 / 16) = 191 from by decide]; omega)]
              go_enter Tryd.func45, Tryd.ntmps45
              go_wp2_with fail
              go_quiet (fail)
              go_wp2_with fail
              go_ret
              exact ⟨rfl, ((Nx.refl _).alloc _).drewN _⟩
            · have hcz : decide ((191 : Int) < (x1.toNat : Int)) = false := by simp; omega
              rw [full_2 hlen.out hx0.out hx1.out hX.out (by decide) (by rw [show accLo (3 / 16) = 128 from by decide, show accHi (3 / 16) = 191 from by decide]; omega)]
              go_enter Tryd.func45, Tryd.ntmps45
              go_wp2_with fail
              go_quiet (fail)
              go_wp2_with fail
              go_ret
              exact ⟨rfl, ((Nx.refl _).alloc _).drewN _⟩
    · have ha0 := (hT.out.2 2 (by omega)).1
      have ha1 := (hT.out.2 2 (by omega)).2
      simp only [accLo, accHi, Nat.reduceMul, Nat.reduceAdd, Nat.reduceEqDiff, if_true, if_false] at ha0 ha1
      rw [hX.out] at hc0
      by_cases hn : 3 ≤ n
      · rw [full_ge hlen.out hx0.out hX.out (by omega) (by simpa using hn)]
        have hnz : (3 : Int) ≤ (n : Int) := by omega
        go_enter Tryd.func45, Tryd.ntmps45
        go_wp2_with fail
        go_ret
        exact ⟨rfl, Nx.refl _⟩
      · by_cases h1 : n = 1
        · obtain rfl : n = 1 := by omega
          rw [full_1 hlen.out hx0.out hX.out (by decide)]
          go_enter Tryd.func45, Tryd.ntmps45
          go_wp2_with fail
          go_quiet (fail)
          go_wp2_with fail
          go_ret
          exact ⟨rfl, ((Nx.refl _).alloc _).drewN _⟩
        · obtain rfl : n = 2 := by omega
          have q1 := hq1.out (by omega)
          by_cases hb : x1.toNat < 128
          · have hbz : (x1.toNat : Int) < 128 := by omega
            rw [full_lo hlen.out hx0.out hx1.out hX.out (by decide) (by decide) (by rw [show accLo (35 / 16) = 128 from by decide, show accHi (35 / 16) = 159 from by decide]; omega)]
            go_enter Tryd.func45, Tryd.ntmps45
            go_wp2_with fail
            go_quiet (fail)
            go_wp2_with fail
            go_ret
            exact ⟨rfl, ((Nx.refl _).alloc _).drewN _⟩
          · have hbz : decide ((x1.toNat : Int) < 128) = false := by simp; omega
            by_cases hc : 159 < x1.toNat
            · have hcz : (159 : Int) < (x1.toNat : Int) := by omega
              rw [full_lo hlen.out hx0.out hx1.out hX.out (by decide) (by decide) (by rw [show accLo (35 / 16) = 128 from by decide, show accHi (35 / 16) = 159 from by decide]; omega)]
              go_enter Tryd.func45, Tryd.ntmps45
              go_wp2_with fail
              go_quiet (fail)
              go_wp2_with fail
              go_ret
              exact ⟨rfl, ((Nx.refl _).alloc _).drewN _⟩
            · have hcz : decide ((159 : Int) < (x1.toNat : Int)) = false := by simp; omega
              rw [full_2 hlen.out hx0.out hx1.out hX.out (by decide) (by rw [show accLo (35 / 16) = 128 from by decide, show accHi (35 / 16) = 159 from by decide]; omega)]
              go_enter Tryd.func45, Tryd.ntmps45
              go_wp2_with fail
              go_quiet (fail)
              go_wp2_with fail
              go_ret
              exact ⟨rfl, ((Nx.refl _).alloc _).drewN _⟩
    · have ha0 := (hT.out.2 3 (by omega)).1
      have ha1 := (hT.out.2 3 (by omega)).2
      simp only [accLo, accHi, Nat.reduceMul, Nat.reduceAdd, Nat.reduceEqDiff, if_true, if_false] at ha0 ha1
      rw [hX.out] at hc0
      by_cases hn : 4 ≤ n
      · rw [full_ge hlen.out hx0.out hX.out (by omega) (by simpa using hn)]
        have hnz : (4 : Int) ≤ (n : Int) := by omega
        go_enter Tryd.func45, Tryd.ntmps45
        go_wp2_with fail
        go_ret
        exact ⟨rfl, Nx.refl _⟩
      · by_cases h1 : n = 1
        · obtain rfl : n = 1 := by omega
          rw [full_1 hlen.out hx0.out hX.out (by decide)]
          go_enter Tryd.func45, Tryd.ntmps45
          go_wp2_with fail
          go_quiet (fail)
          go_wp2_with fail
          go_ret
          exact ⟨rfl, ((Nx.refl _).alloc _).drewN _⟩
        · by_cases h2 : n = 2
          · obtain rfl : n = 2 := by omega
            have q1 := hq1.out (by omega)
            by_cases hb : x1.toNat < 144
            · have hbz : (x1.toNat : Int) < 144 := by omega
              rw [full_lo hlen.out hx0.out hx1.out hX.out (by decide) (by decide) (by rw [show accLo (52 / 16) = 144 from by decide, show accHi (52 / 16) = 191 from by decide]; omega)]
              go_enter Tryd.func45, Tryd.ntmps45
              go_wp2_with fail
              go_quiet (fail)
              go_wp2_with fail
              go_ret
              exact ⟨rfl, ((Nx.refl _).alloc _).drewN _⟩
            · have hbz : decide ((x1.toNat : Int) < 144) = false := by simp; omega
              by_cases hc : 191 < x1.toNat
              · have hcz : (191 : Int) < (x1.toNat : Int) := by omega
                rw [full_lo hlen.out hx0.out hx1.out hX.out (by decide) (by decide) (by rw [show accLo (52 / 16) = 144 from by decide, show accHi (52 / 16) = 191 from by decide]; omega)]
                go_enter Tryd.func45, Tryd.ntmps45
                go_wp2_with fail
                go_quiet (fail)
                go_wp2_with fail
                go_ret
                exact ⟨rfl, ((Nx.refl _).alloc _).drewN _⟩
              · have hcz : decide ((191 : Int) < (x1.toNat : Int)) = false := by simp; omega
                rw [full_2 hlen.out hx0.out hx1.out hX.out (by decide) (by rw [show accLo (52 / 16) = 144 from by decide, show accHi (52 / 16) = 191 from by decide]; omega)]
                go_enter Tryd.func45, Tryd.ntmps45
                go_wp2_with fail
                go_quiet (fail)
                go_wp2_with fail
                go_ret
                exact ⟨rfl, ((Nx.refl _).alloc _).drewN _⟩
          · obtain rfl : n = 3 := by omega
            have q1 := hq1.out (by omega)
            have q2 := hq2.out (by omega)
            by_cases hb : x1.toNat < 144
            · have hbz : (x1.toNat : Int) < 144 := by omega
              rw [full_lo hlen.out hx0.out hx1.out hX.out (by decide) (by decide) (by rw [show accLo (52 / 16) = 144 from by decide, show accHi (52 / 16) = 191 from by decide]; omega)]
              go_enter Tryd.func45, Tryd.ntmps45
              go_wp2_with fail
              go_quiet (fail)
              go_wp2_with fail
              go_ret
              exact ⟨rfl, ((Nx.refl _).alloc _).drewN _⟩
            · have hbz : decide ((x1.toNat : Int) < 144) = false := by simp; omega
              by_cases hc : 191 < x1.toNat
              · have hcz : (191 : Int) < (x1.toNat : Int) := by omega
                rw [full_lo hlen.out hx0.out hx1.out hX.out (by decide) (by decide) (by rw [show accLo (52 / 16) = 144 from by decide, show accHi (52 / 16) = 191 from by decide]; omega)]
                go_enter Tryd.func45, Tryd.ntmps45
                go_wp2_with fail
                go_quiet (fail)
                go_wp2_with fail
                go_ret
                exact ⟨rfl, ((Nx.refl _).alloc _).drewN _⟩
              · have hcz : decide ((191 : Int) < (x1.toNat : Int)) = false := by simp; omega
                by_cases hd : x2.toNat < 128
                · have hdz : (x2.toNat : Int) < 128 := by omega
                  rw [full_c hlen.out hx0.out hx1.out hx2.out hX.out (by decide) (by rw [show accLo (52 / 16) = 144 from by decide, show accHi (52 / 16) = 191 from by decide]; omega) (Or.inl hd)]
                  go_enter Tryd.func45, Tryd.ntmps45
                  go_wp2_with fail
                  go_quiet (fail)
                  go_wp2_with fail
                  go_ret
                  exact ⟨rfl, ((Nx.refl _).alloc _).drewN _⟩
                · have hdz : decide ((x2.toNat : Int) < 128) = false := by simp; omega
                  by_cases he : 191 < x2.toNat
                  · have hez : (191 : Int) < (x2.toNat : Int) := by omega
                    rw [full_c hlen.out hx0.out hx1.out hx2.out hX.out (by decide) (by rw [show accLo (52 / 16) = 144 from by decide, show accHi (52 / 16) = 191 from by decide]; omega) (Or.inr he)]
                    go_enter Tryd.func45, Tryd.ntmps45
                    go_wp2_with fail
                    go_quiet (fail)
                    go_wp2_with fail
                    go_ret
                    exact ⟨rfl, ((Nx.refl _).alloc _).drewN _⟩
                  · have hez : decide ((191 : Int) < (x2.toNat : Int)) = false := by simp; omega
                    rw [full_3 hlen.out hx0.out hx1.out hx2.out hX.out (by decide) (by rw [show accLo (52 / 16) = 144 from by decide, show accHi (52 / 16) = 191 from by decide]; omega) (by omega)]
                    go_enter Tryd.func45, Tryd.ntmps45
                    go_wp2_with fail
                    go_quiet (fail)
                    go_wp2_with fail
                    go_ret
                    exact ⟨rfl, ((Nx.refl _).alloc _).drewN _⟩
    · have ha0 := (hT.out.2 0 (by omega)).1
      have ha1 := (hT.out.2 0 (by omega)).2
      simp only [accLo, accHi, Nat.reduceMul, Nat.reduceAdd, Nat.reduceEqDiff, if_true, if_false] at ha0 ha1
      rw [hX.out] at hc0
      by_cases hn : 4 ≤ n
      · rw [full_ge hlen.out hx0.out hX.out (by omega) (by simpa using hn)]
        have hnz : (4 : Int) ≤ (n : Int) := by omega
        go_enter Tryd.func45, Tryd.ntmps45
        go_wp2_with fail
        go_ret
        exact ⟨rfl, Nx.refl _⟩
      · by_cases h1 : n = 1
        · obtain rfl : n = 1 := by omega
          rw [full_1 hlen.out hx0.out hX.out (by decide)]
          go_enter Tryd.func45, Tryd.ntmps45
          go_wp2_with fail
          go_quiet (fail)
          go_wp2_with fail
          go_ret
          exact ⟨rfl, ((Nx.refl _).alloc _).drewN _⟩
        · by_cases h2 : n = 2
          · obtain rfl : n = 2 := by omega
            have q1 := hq1.out (by omega)
            by_cases hb : x1.toNat < 128
            · have hbz : (x1.toNat : Int) < 128 := by omega
              rw [full_lo hlen.out hx0.out hx1.out hX.out (by decide) (by decide) (by rw [show accLo (4 / 16) = 128 from by decide, show accHi (4 / 16) = 191 from by decide]; omega)]
              go_enter Tryd.func45, Tryd.ntmps45
              go_wp2_with fail
              go_quiet (fail)
              go_wp2_with fail
              go_ret
              exact ⟨rfl, ((Nx.refl _).alloc _).drewN _⟩
            · have hbz : decide ((x1.toNat : Int) < 128) = false := by simp; omega
              by_cases hc : 191 < x1.toNat
              · have hcz : (191 : Int) < (x1.toNat : Int) := by omega
                rw [full_lo hlen.out hx0.out hx1.out hX.out (by decide) (by decide) (by rw [show accLo (4 / 16) = 128 from by decide, show accHi (4 / 16) = 191 from by decide]; omega)]
                go_enter Tryd.func45, Tryd.ntmps45
                go_wp2_with fail
                go_quiet (fail)
                go_wp2_with fail
                go_ret
                exact ⟨rfl, ((Nx.refl _).alloc _).drewN _⟩
              · have hcz : decide ((191 : Int) < (x1.toNat : Int)) = false := by simp; omega
                rw [full_2 hlen.out hx0.out hx1.out hX.out (by decide) (by rw [show accLo (4 / 16) = 128 from by decide, show accHi (4 / 16) = 191 from by decide]; omega)]
                go_enter Tryd.func45, Tryd.ntmps45
                go_wp2_with fail
                go_quiet (fail)
                go_wp2_with fail
                go_ret
                exact ⟨rfl, ((Nx.refl _).alloc _).drewN _⟩
          · obtain rfl : n = 3 := by omega
            have q1 := hq1.out (by omega)
            have q2 := hq2.out (by omega)
            by_cases hb : x1.toNat < 128
            · have hbz : (x1.toNat : Int) < 128 := by omega
              rw [full_lo hlen.out hx0.out hx1.out hX.out (by decide) (by decide) (by rw [show accLo (4 / 16) = 128 from by decide, show accHi (4 / 16) = 191 from by decide]; omega)]
              go_enter Tryd.func45, Tryd.ntmps45
              go_wp2_with fail
              go_quiet (fail)
              go_wp2_with fail
              go_ret
              exact ⟨rfl, ((Nx.refl _).alloc _).drewN _⟩
            · have hbz : decide ((x1.toNat : Int) < 128) = false := by simp; omega
              by_cases hc : 191 < x1.toNat
              · have hcz : (191 : Int) < (x1.toNat : Int) := by omega
                rw [full_lo hlen.out hx0.out hx1.out hX.out (by decide) (by decide) (by rw [show accLo (4 / 16) = 128 from by decide, show accHi (4 / 16) = 191 from by decide]; omega)]
                go_enter Tryd.func45, Tryd.ntmps45
                go_wp2_with fail
                go_quiet (fail)
                go_wp2_with fail
                go_ret
                exact ⟨rfl, ((Nx.refl _).alloc _).drewN _⟩
              · have hcz : decide ((191 : Int) < (x1.toNat : Int)) = false := by simp; omega
                by_cases hd : x2.toNat < 128
                · have hdz : (x2.toNat : Int) < 128 := by omega
                  rw [full_c hlen.out hx0.out hx1.out hx2.out hX.out (by decide) (by rw [show accLo (4 / 16) = 128 from by decide, show accHi (4 / 16) = 191 from by decide]; omega) (Or.inl hd)]
                  go_enter Tryd.func45, Tryd.ntmps45
                  go_wp2_with fail
                  go_quiet (fail)
                  go_wp2_with fail
                  go_ret
                  exact ⟨rfl, ((Nx.refl _).alloc _).drewN _⟩
                · have hdz : decide ((x2.toNat : Int) < 128) = false := by simp; omega
                  by_cases he : 191 < x2.toNat
                  · have hez : (191 : Int) < (x2.toNat : Int) := by omega
                    rw [full_c hlen.out hx0.out hx1.out hx2.out hX.out (by decide) (by rw [show accLo (4 / 16) = 128 from by decide, show accHi (4 / 16) = 191 from by decide]; omega) (Or.inr he)]
                    go_enter Tryd.func45, Tryd.ntmps45
                    go_wp2_with fail
                    go_quiet (fail)
                    go_wp2_with fail
                    go_ret
                    exact ⟨rfl, ((Nx.refl _).alloc _).drewN _⟩
                  · have hez : decide ((191 : Int) < (x2.toNat : Int)) = false := by simp; omega
                    rw [full_3 hlen.out hx0.out hx1.out hx2.out hX.out (by decide) (by rw [show accLo (4 / 16) = 128 from by decide, show accHi (4 / 16) = 191 from by decide]; omega) (by omega)]
                    go_enter Tryd.func45, Tryd.ntmps45
                    go_wp2_with fail
                    go_quiet (fail)
                    go_wp2_with fail
                    go_ret
                    exact ⟨rfl, ((Nx.refl _).alloc _).drewN _⟩
    · have ha0 := (hT.out.2 4 (by omega)).1
      have ha1 := (hT.out.2 4 (by omega)).2
      simp only [accLo, accHi, Nat.reduceMul, Nat.reduceAdd, Nat.reduceEqDiff, if_true, if_false] at ha0 ha1
      rw [hX.out] at hc0
      by_cases hn : 4 ≤ n
      · rw [full_ge hlen.out hx0.out hX.out (by omega) (by simpa using hn)]
        have hnz : (4 : Int) ≤ (n : Int) := by omega
        go_enter Tryd.func45, Tryd.ntmps45
        go_wp2_with fail
        go_ret
        exact ⟨rfl, Nx.refl _⟩
      · by_cases h1 : n = 1
        · obtain rfl : n = 1 := by omega
          rw [full_1 hlen.out hx0.out hX.out (by decide)]
          go_enter Tryd.func45, Tryd.ntmps45
          go_wp2_with fail
          go_quiet (fail)
          go_wp2_with fail
          go_ret
          exact ⟨rfl, ((Nx.refl _).alloc _).drewN _⟩
        · by_cases h2 : n = 2
          · obtain rfl : n = 2 := by omega
            have q1 := hq1.out (by omega)
            by_cases hb : x1.toNat < 128
            · have hbz : (x1.toNat : Int) < 128 := by omega
              rw [full_lo hlen.out hx0.out hx1.out hX.out (by decide) (by decide) (by rw [show accLo (68 / 16) = 128 from by decide, show accHi (68 / 16) = 143 from by decide]; omega)]
              go_enter Tryd.func45, Tryd.ntmps45
              go_wp2_with fail
              go_quiet (fail)
              go_wp2_with fail
              go_ret
              exact ⟨rfl, ((Nx.refl _).alloc _).drewN _⟩
            · have hbz : decide ((x1.toNat : Int) < 128) = false := by simp; omega
              by_cases hc : 143 < x1.toNat
              · have hcz : (143 : Int) < (x1.toNat : Int) := by omega
                rw [full_lo hlen.out hx0.out hx1.out hX.out (by decide) (by decide) (by rw [show accLo (68 / 16) = 128 from by decide, show accHi (68 / 16) = 143 from by decide]; omega)]
                go_enter Tryd.func45, Tryd.ntmps45
                go_wp2_with fail
                go_quiet (fail)
                go_wp2_with fail
                go_ret
                exact ⟨rfl, ((Nx.refl _).alloc _).drewN _⟩
              · have hcz : decide ((143 : Int) < (x1.toNat : Int)) = false := by simp; omega
                rw [full_2 hlen.out hx0.out hx1.out hX.out (by decide) (by rw [show accLo (68 / 16) = 128 from by decide, show accHi (68 / 16) = 143 from by decide]; omega)]
                go_enter Tryd.func45, Tryd.ntmps45
                go_wp2_with fail
                go_quiet (fail)
                go_wp2_with fail
                go_ret
                exact ⟨rfl, ((Nx.refl _).alloc _).drewN _⟩
          · obtain rfl : n = 3 := by omega
            have q1 := hq1.out (by omega)
            have q2 := hq2.out (by omega)
            by_cases hb : x1.toNat < 128
            · have hbz : (x1.toNat : Int) < 128 := by omega
              rw [full_lo hlen.out hx0.out hx1.out hX.out (by decide) (by decide) (by rw [show accLo (68 / 16) = 128 from by decide, show accHi (68 / 16) = 143 from by decide]; omega)]
              go_enter Tryd.func45, Tryd.ntmps45
              go_wp2_with fail
              go_quiet (fail)
              go_wp2_with fail
              go_ret
              exact ⟨rfl, ((Nx.refl _).alloc _).drewN _⟩
            · have hbz : decide ((x1.toNat : Int) < 128) = false := by simp; omega
              by_cases hc : 143 < x1.toNat
              · have hcz : (143 : Int) < (x1.toNat : Int) := by omega
                rw [full_lo hlen.out hx0.out hx1.out hX.out (by decide) (by decide) (by rw [show accLo (68 / 16) = 128 from by decide, show accHi (68 / 16) = 143 from by decide]; omega)]
                go_enter Tryd.func45, Tryd.ntmps45
                go_wp2_with fail
                go_quiet (fail)
                go_wp2_with fail
                go_ret
                exact ⟨rfl, ((Nx.refl _).alloc _).drewN _⟩
              · have hcz : decide ((143 : Int) < (x1.toNat : Int)) = false := by simp; omega
                by_cases hd : x2.toNat < 128
                · have hdz : (x2.toNat : Int) < 128 := by omega
                  rw [full_c hlen.out hx0.out hx1.out hx2.out hX.out (by decide) (by rw [show accLo (68 / 16) = 128 from by decide, show accHi (68 / 16) = 143 from by decide]; omega) (Or.inl hd)]
                  go_enter Tryd.func45, Tryd.ntmps45
                  go_wp2_with fail
                  go_quiet (fail)
                  go_wp2_with fail
                  go_ret
                  exact ⟨rfl, ((Nx.refl _).alloc _).drewN _⟩
                · have hdz : decide ((x2.toNat : Int) < 128) = false := by simp; omega
                  by_cases he : 191 < x2.toNat
                  · have hez : (191 : Int) < (x2.toNat : Int) := by omega
                    rw [full_c hlen.out hx0.out hx1.out hx2.out hX.out (by decide) (by rw [show accLo (68 / 16) = 128 from by decide, show accHi (68 / 16) = 143 from by decide]; omega) (Or.inr he)]
                    go_enter Tryd.func45, Tryd.ntmps45
                    go_wp2_with fail
                    go_quiet (fail)
                    go_wp2_with fail
                    go_ret
                    exact ⟨rfl, ((Nx.refl _).alloc _).drewN _⟩
                  · have hez : decide ((191 : Int) < (x2.toNat : Int)) = false := by simp; omega
                    rw [full_3 hlen.out hx0.out hx1.out hx2.out hX.out (by decide) (by rw [show accLo (68 / 16) = 128 from by decide, show accHi (68 / 16) = 143 from by decide]; omega) (by omega)]
                    go_enter Tryd.func45, Tryd.ntmps45
                    go_wp2_with fail
                    go_quiet (fail)
                    go_wp2_with fail
                    go_ret
                    exact ⟨rfl, ((Nx.refl _).alloc _).drewN _⟩
end Go.Proofs.YtdhofjhmbdeibaaDoor
