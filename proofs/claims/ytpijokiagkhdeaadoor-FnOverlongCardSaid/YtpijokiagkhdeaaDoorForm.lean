/- Contract: spec.Form: the bytes of a form with two, three or four bytes, whether it is the shortest one or not. -/
import Derived.Test.YtpijokiagkhdeaaDoorRows
import Derived.Test.YtpijokiagkhdeaaDoorPlain
import Derived.Test.YtpijokiagkhdeaaDoorLits
namespace Go.Proofs.YtpijokiagkhdeaaDoor
open Go.RowKit Go.Lib
set_option linter.unusedVariables false
def formZ (r : Int) (n : Nat) : List Int :=
  if n = 2 then [192 + r / 64 % 32, 128 + r % 64]
  else if n = 3 then [224 + r / 4096 % 16, 128 + r / 64 % 64, 128 + r % 64]
  else [240 + r / 262144 % 8, 128 + r / 4096 % 64, 128 + r / 64 % 64, 128 + r % 64]
def form (r : Int) (n : Nat) : List UInt8 := bytesOf (formZ r n)
theorem formZ_byte (r : Int) (n : Nat) : ∀ z ∈ formZ r n, 0 ≤ z ∧ z ≤ 255 := by
  intro z hz
  unfold formZ at hz
  split at hz
  · simp only [List.mem_cons, List.not_mem_nil, or_false] at hz; omega
  · split at hz
    · simp only [List.mem_cons, List.not_mem_nil, or_false] at hz; omega
    · simp only [List.mem_cons, List.not_mem_nil, or_false] at hz; omega
theorem nums_form (r : Int) (n : Nat) : nums (form r n) = formZ r n := nums_bytesOf (formZ_byte r n)
theorem form_len (r : Int) (n : Nat) (h : n = 2 ∨ n = 3 ∨ n = 4) : (form r n).length = n := by
  unfold form
  rw [bytesOf_len]
  rcases h with rfl | rfl | rfl <;> rfl
theorem form_row (w : World) (zs : List Int) (cs : Array Value) (n : Nat) (hc : cs = (zs.map (Value.int .u8)).toArray) (hl : n = zs.length) (hm : zs.length ≤ 4) :
    NewS .u8 5 zs w (.returned (.slice (some ⟨w.heap.size, 0, none⟩) n n)) (w.alloc (.cells cs 5)) :=
  ⟨_, _, _, rfl, Own.new _ _ _ _ (Nat.le_refl _) zs cs n hc hl (by simp only [maxLen]; omega), (Nx.refl _).alloc _⟩
set_option maxHeartbeats 1000000 in
theorem form_any (r : Int) (n : Nat) (w : World) (h0 : 0 ≤ r) (h1 : r ≤ 2147483647) (hn : n = 2 ∨ n = 3 ∨ n = 4) : Calls Tryd.prog 22 #[.int .i32 r, .int .i64 (n : Int)] w (NewS .u8 5 (nums (form r n)) w) := by
  rw [nums_form]
  rcases hn with rfl | rfl | rfl
  · rw [show formZ r 2 = [192 + r / 64 % 32, 128 + r % 64] from rfl]
    go_enter Tryd.func22, Tryd.ntmps22
    go_wp2
    go_ret
    exact form_row w _ _ _ rfl rfl (by simp)
  · rw [show formZ r 3 = [224 + r / 4096 % 16, 128 + r / 64 % 64, 128 + r % 64] from rfl]
    go_enter Tryd.func22, Tryd.ntmps22
    go_wp2
    go_ret
    exact form_row w _ _ _ rfl rfl (by simp)
  · rw [show formZ r 4 = [240 + r / 262144 % 8, 128 + r / 4096 % 64, 128 + r / 64 % 64, 128 + r % 64] from rfl]
    go_enter Tryd.func22, Tryd.ntmps22
    go_wp2
    go_ret
    exact form_row w _ _ _ rfl rfl (by simp)
end Go.Proofs.YtpijokiagkhdeaaDoor
