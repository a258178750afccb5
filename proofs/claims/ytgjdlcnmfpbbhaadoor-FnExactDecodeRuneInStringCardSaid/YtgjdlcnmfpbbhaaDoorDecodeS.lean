/- Contract: spec.DecodeRuneInString: what is decoded in front of a string. -/
import Derived.Test.YtgjdlcnmfpbbhaaDoorDecode
namespace Go.Proofs.YtgjdlcnmfpbbhaaDoor
open Go.RowKit Go.Lib
set_option linter.unusedVariables false
set_option maxHeartbeats 400000 in
theorem specDecodeS_any (s : ByteArray) (w : World) (hs : s.size ≤ 17592186044416) : Calls Tryd.prog 29 #[.string s] w fun e w' => e = .returned (.tuple #[.int .i32 ((dec s.data.toList).1 : Int), .int .i64 ((dec s.data.toList).2 : Int)]) ∧ Nx w w' := by
  have hcv := fun W => run_str_bytes (P := Tryd.prog) 9 22 5 Tryd.underlying9 Tryd.underlying22 Tryd.underlying5 s W
  obtain ⟨R, hR⟩ : ∃ R, Hid ((dec s.data.toList).1 = R) := ⟨_, rfl⟩
  obtain ⟨K, hK⟩ : ∃ K, Hid ((dec s.data.toList).2 = K) := ⟨_, rfl⟩
  rw [hR.out, hK.out]
  go_enter Tryd.func29, Tryd.ntmps29
  go_wp2_with fail
  refine (specDecode_any _ _ _ s.data.toList _ (by_str_bytes _ _ _) (grownCap_ge _ _ _ _) (by omega)).mono ?_
  rw [hR.out, hK.out]
  rintro e w1 ⟨rfl, hn1⟩
  clear hcv
  go_wp2_with fail
  go_ret2
  exact ⟨rfl, (nx_str_bytes 5 s w).trans hn1⟩
end Go.Proofs.YtgjdlcnmfpbbhaaDoor
