/- Contracts: FullRune and FullRuneInString through impl. -/
import Derived.Test.YtdhofjhmbdeibaaDoorFull
namespace Go.Proofs.YtdhofjhmbdeibaaDoor
open Go.RowKit Go.Lib
set_option linter.unusedVariables false
set_option maxHeartbeats 400000 in
theorem fullR_any (A : Option Addr) (n c : Nat) (l : List UInt8) (w : World) (hT : Tabs w) (hl : By w A n l) (hn' : n ≤ 9223372036854775807) :
    Calls Tryd.prog 24 #[.slice A n c] w fun e w' => e = .returned (.bool (fullB l)) ∧ Nx w w' := by
  have cd := utf8_full A n c l w hT hl hn'
  obtain ⟨R, hR⟩ : ∃ R, fullB l = R := ⟨_, rfl⟩
  rw [hR] at cd ⊢
  clear hR
  go_enter Tryd.func24, Tryd.ntmps24
  go_wp2_with (go_at_call 45; refine cd.mono ?_; rintro e w1 ⟨rfl, hn1⟩)
  go_ret
  exact ⟨rfl, hn1⟩
end Go.Proofs.YtdhofjhmbdeibaaDoor
