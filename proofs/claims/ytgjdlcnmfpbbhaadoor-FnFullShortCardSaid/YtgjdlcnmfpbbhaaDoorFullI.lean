/- Contracts: FullRune and FullRuneInString through impl. -/
import Derived.Test.YtgjdlcnmfpbbhaaDoorFull
import Derived.Test.YtgjdlcnmfpbbhaaDoorFullS
namespace Go.Proofs.YtgjdlcnmfpbbhaaDoor
open Go.RowKit Go.Lib
set_option linter.unusedVariables false
set_option maxHeartbeats 400000 in
theorem fullR_any (A : Option Addr) (n c : Nat) (l : List UInt8) (w : World) (hT : Tabs w) (hl : By w A n l) (hn' : n ≤ 9223372036854775807) :
    Calls Tryd.prog 19 #[.slice A n c] w fun e w' => e = .returned (.bool (fullB l)) ∧ Nx w w' := by
  have cd := utf8_full A n c l w hT hl hn'
  obtain ⟨R, hR⟩ : ∃ R, fullB l = R := ⟨_, rfl⟩
  rw [hR] at cd ⊢
  clear hR
  go_enter Tryd.func19, Tryd.ntmps19
  go_wp2_with (go_at_call 40; refine cd.mono ?_; rintro e w1 ⟨rfl, hn1⟩)
  go_ret
  exact ⟨rfl, hn1⟩
set_option maxHeartbeats 400000 in
theorem fullS_any (s : ByteArray) (w : World) (hT : Tabs w) (hn' : s.size ≤ 9223372036854775807) :
    Calls Tryd.prog 20 #[.string s] w fun e w' => e = .returned (.bool (fullB s.data.toList)) ∧ Nx w w' := by
  have cd := utf8_fullS s w hT hn'
  obtain ⟨R, hR⟩ : ∃ R, fullB s.data.toList = R := ⟨_, rfl⟩
  rw [hR] at cd ⊢
  clear hR
  go_enter Tryd.func20, Tryd.ntmps20
  go_wp2_with (go_at_call 41; refine cd.mono ?_; rintro e w1 ⟨rfl, hn1⟩)
  go_ret
  exact ⟨rfl, hn1⟩
end Go.Proofs.YtgjdlcnmfpbbhaaDoor
