/- Contracts: spec.Surrogate, spec.Good: a bool that is told by the number. -/
import Derived.Test.YteloimkpkbcahaaRows
import Derived.Test.YteloimkpkbcahaaPlain
import Derived.Test.YteloimkpkbcahaaOwn
namespace Go.Proofs.Yteloimkpkbcahaa
open Go.RowKit
set_option linter.unusedVariables false
set_option maxHeartbeats 400000 in
theorem surrogate_any (r : Int) (w : World) : Calls Try.prog 8 #[.int .i32 r] w fun e w' => e = .returned (.bool (surB r)) ∧ w = w' := by
  go_enter Try.func8, Try.ntmps8
  go_wp2
  all_goals (go_ret; exact ⟨ret_bool (by simp [surB]; try omega), rfl⟩)
theorem good_at {r : Int} (h1 : 0 ≤ r) (h2 : r ≤ 1114111) : (!surB r) = goodB r := by
  unfold surB goodB
  by_cases h3 : 55296 ≤ r ∧ r ≤ 57343 <;> simp [h1, h2, h3]
set_option maxHeartbeats 400000 in
theorem good_any (r : Int) (w : World) : Calls Try.prog 4 #[.int .i32 r] w fun e w' => e = .returned (.bool (goodB r)) ∧ w = w' := by
  by_cases h1 : 0 ≤ r
  · by_cases h2 : r ≤ 1114111
    · go_enter Try.func4, Try.ntmps4
      go_wp2_with (go_at_call 8; refine (surrogate_any _ _).mono ?_; rintro e w' ⟨rfl, rfl⟩)
      all_goals (go_ret; exact ⟨ret_bool (good_at h1 h2), rfl⟩)
    · go_enter Try.func4, Try.ntmps4
      go_wp2_with fail
      all_goals (go_ret; exact ⟨ret_bool (by simp [goodB]; try omega), rfl⟩)
  · go_enter Try.func4, Try.ntmps4
    go_wp2_with fail
    all_goals (go_ret; exact ⟨ret_bool (by simp [goodB]; try omega), rfl⟩)
end Go.Proofs.Yteloimkpkbcahaa
