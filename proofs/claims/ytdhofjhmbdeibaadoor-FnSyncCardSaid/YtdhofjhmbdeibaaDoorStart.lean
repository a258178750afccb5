/- Contracts: RuneStart, by spec, by unicode/utf8 and through impl: whether the two highest bits of a byte are not 10. -/
import Derived.Test.YtdhofjhmbdeibaaDoorRows
import Derived.Test.YtdhofjhmbdeibaaDoorPlain
import Derived.Test.YtdhofjhmbdeibaaDoorOwn
namespace Go.Proofs.YtdhofjhmbdeibaaDoor
open Go.RowKit Go.Lib
set_option linter.unusedVariables false
def startB (b : Int) : Bool := decide (b / 64 ≠ 2)
theorem start_bits : ∀ x : Fin 256, (bits .and .u8 ((x.val : Nat) : Int) 192 != 128) = startB ((x.val : Nat) : Int) := by decide +kernel
theorem start_at (b : Int) (h0 : 0 ≤ b) (h1 : b ≤ 255) : (bits .and .u8 b 192 != 128) = startB b := by
  have := start_bits ⟨b.toNat, by omega⟩
  simp only at this
  rwa [Int.toNat_of_nonneg h0] at this
theorem start_byte (b : UInt8) : startB (b.toNat : Int) = decide (b.toNat / 64 ≠ 2) := by
  unfold startB
  have := b.toNat_lt
  congr 1
  simp only [ne_eq, eq_iff_iff]
  omega
set_option maxHeartbeats 400000 in
theorem utf8_start (b : Int) (w : World) (h0 : 0 ≤ b) (h1 : b ≤ 255) : Calls Tryd.prog 39 #[.int .u8 b] w fun e w' => e = .returned (.bool (startB b)) ∧ w = w' := by
  have he := Lib.hid (start_at b h0 h1)
  go_enter Tryd.func39, Tryd.ntmps39
  go_wp2
  go_ret
  exact ⟨ret_bool he.out, rfl⟩
set_option maxHeartbeats 400000 in
theorem start_any (b : Int) (w : World) (h0 : 0 ≤ b) (h1 : b ≤ 255) : Calls Tryd.prog 19 #[.int .u8 b] w fun e w' => e = .returned (.bool (startB b)) ∧ w = w' := by
  go_enter Tryd.func19, Tryd.ntmps19
  go_wp2_with (go_at_call 39; refine (utf8_start _ _ h0 h1).mono ?_; rintro e w' ⟨rfl, rfl⟩)
  go_ret
  exact ⟨rfl, rfl⟩
end Go.Proofs.YtdhofjhmbdeibaaDoor
