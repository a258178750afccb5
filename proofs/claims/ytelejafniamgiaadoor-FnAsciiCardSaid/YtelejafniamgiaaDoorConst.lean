/- Contract: impl.Constants: the four constants. -/
import Derived.Test.YtelejafniamgiaaDoorRows
import Derived.Test.YtelejafniamgiaaDoorOwn
namespace Go.Proofs.YtelejafniamgiaaDoor
open Go.RowKit
set_option linter.unusedVariables false
theorem results_four {fn : Func} {t u v x : Tmp} (h : fn.results = #[.tmp t, .tmp u, .tmp v, .tmp x]) (tmps : Array Value) (P : Program) (w : World) :
    (results fn tmps).run P w = .ok (.tuple #[tmps.getD t undef, tmps.getD u undef, tmps.getD v undef, tmps.getD x undef]) w := by
  simp [results, h]
set_option maxHeartbeats 400000 in
theorem constants_any (w : World) : Calls Tryd.prog 17 #[] w fun e w' => e = .returned (.tuple #[.int .i32 65533, .int .i64 128, .int .i32 1114111, .int .i64 4]) ∧ w = w' := by
  go_enter Tryd.func17, Tryd.ntmps17
  go_wp2
  (try simp only [Exit.inBlock, Exit.then]); refine bodyPost_ret (results_four rfl _ _ _) rfl ?_
  exact ⟨rfl, rfl⟩
end Go.Proofs.YtelejafniamgiaaDoor
