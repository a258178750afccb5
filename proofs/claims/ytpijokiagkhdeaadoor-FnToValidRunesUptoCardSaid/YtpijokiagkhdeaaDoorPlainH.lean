/- Plain facts: the steps of what is made valid, told one by one from the front. -/
import Derived.Test.YtpijokiagkhdeaaDoorPlainG
namespace Go.Proofs.YtpijokiagkhdeaaDoor
open Go.Lib
set_option linter.unusedVariables false
def lastW : Bool → List (Nat × Nat) → Bool
  | inv, [] => inv
  | _, p :: ps => lastW (wrongB p) ps
theorem lastW_snoc (inv : Bool) (ps : List (Nat × Nat)) (d : Nat × Nat) : lastW inv (ps ++ [d]) = wrongB d := by
  induction ps generalizing inv with
  | nil => rfl
  | cons p ps ih => simp only [List.cons_append, lastW, ih]
theorem keptL_snoc (ps : List (Nat × Nat)) (d : Nat × Nat) : keptL (ps ++ [d]) = keptL ps + if wrongB d then 0 else d.2 := by simp [keptL]
theorem runsL_snoc (inv : Bool) (ps : List (Nat × Nat)) (d : Nat × Nat) : runsL inv (ps ++ [d]) = runsL inv ps + if wrongB d && !lastW inv ps then 1 else 0 := by
  induction ps generalizing inv with
  | nil => simp [runsL, lastW]
  | cons p ps ih =>
    show (_ + runsL (wrongB p) (ps ++ [d])) = (_ + runsL (wrongB p) ps) + _
    rw [ih (wrongB p), ← Nat.add_assoc]
    rfl
theorem dueL_snoc (inv : Bool) (ps : List (Nat × Nat)) (d : Nat × Nat) : dueL inv (ps ++ [d]) = dueL inv ps ++ if wrongB d && lastW inv ps then [] else [(d.1 : Int)] := by
  induction ps generalizing inv with
  | nil => simp [dueL, lastW]
  | cons p ps ih =>
    show (_ ++ dueL (wrongB p) (ps ++ [d])) = (_ ++ dueL (wrongB p) ps) ++ _
    rw [ih (wrongB p), ← List.append_assoc]
    rfl
theorem kept_le (ps : List (Nat × Nat)) : keptL ps ≤ total ps := by
  induction ps with
  | nil => simp [keptL, total]
  | cons p ps ih =>
    rw [total_cons]
    simp only [keptL, List.map_cons, List.sum_cons] at ih ⊢
    split <;> omega
theorem runs_le (inv : Bool) (ps : List (Nat × Nat)) : runsL inv ps ≤ ps.length := by
  induction ps generalizing inv with
  | nil => simp [runsL]
  | cons p ps ih =>
    have := ih (wrongB p)
    simp only [runsL, List.length_cons]
    split <;> omega
theorem due_le (inv : Bool) (ps : List (Nat × Nat)) : (dueL inv ps).length ≤ ps.length := by
  induction ps generalizing inv with
  | nil => simp [dueL]
  | cons p ps ih =>
    have := ih (wrongB p)
    simp only [dueL, List.length_cons, List.length_append]
    split <;> simp <;> omega
theorem total_take (l : List UInt8) (k : Nat) : total ((steps l).take k) ≤ l.length := by
  have h1 := total_steps l
  have h0 : ∀ a b : List (Nat × Nat), total (a ++ b) = total a + total b := fun a b => by simp [total]
  have h2 := h0 ((steps l).take k) ((steps l).drop k)
  rw [List.take_append_drop] at h2
  omega
/-- The step before this one. -/
theorem lastW_take (ps : List (Nat × Nat)) (j : Nat) (hj : j < ps.length) : lastW false (ps.take (j + 1)) = wrongB (ps[j]'hj) := by
  rw [List.take_succ_eq_append_getElem hj, lastW_snoc]
end Go.Proofs.YtpijokiagkhdeaaDoor
