/- Contract: spec.Encoding of a rune in range: a new slice with the encoding's bytes. -/
import Derived.Test.YteloimkpkbcahaaRows
import Derived.Test.YteloimkpkbcahaaPlain
import Derived.Test.YteloimkpkbcahaaOwn
namespace Go.Proofs.Yteloimkpkbcahaa
open Go.RowKit Go.Lib
set_option linter.unusedVariables false
theorem nums_enc (r : Int) : nums (encodeRune r) = encodeRuneZ r := by
  unfold nums encodeRune
  rw [List.map_map]
  have : ∀ x ∈ encodeRuneZ r, ((fun b : UInt8 => (b.toNat : Int)) ∘ fun x : Int => x.toNat.toUInt8) x = id x := by
    intro x hx
    obtain ⟨h0, h1⟩ := encodeRuneZ_byte r x hx
    simp [Function.comp]
    omega
  rw [List.map_congr_left this, List.map_id]
theorem own_row (w : World) (zs : List Int) (cs : Array Value) (n : Nat) (hc : cs = (zs.map (Value.int .u8)).toArray) (hl : n = zs.length) (hm : zs.length ≤ 4) :
    NewS .u8 5 zs w (.returned (.slice (some ⟨w.heap.size, 0, none⟩) n n)) (w.alloc (.cells cs 5)) :=
  ⟨_, _, _, rfl, Own.new _ _ _ _ (Nat.le_refl _) zs cs n hc hl (by simp only [maxLen]; omega), (Nx.refl _).alloc _⟩
set_option maxHeartbeats 1000000 in
theorem encoding_any (r : Int) (w : World) (hg : goodB r = true) : Calls Try.prog 9 #[.int .i32 r] w (NewS .u8 5 (nums (encodeRune r)) w) := by
  rw [nums_enc]
  have HG := Lib.hid hg
  rw [goodB_iff] at hg
  obtain ⟨h0, h1, h2⟩ := hg
  rcases good_cases HG.out with h | h | h | h
  · rw [encodeRuneZ_one h.1 h.2]
    clear h2
    obtain ⟨h3, h4⟩ := h
    go_enter Try.func9, Try.ntmps9
    go_wp2
    go_ret
    exact own_row w _ _ _ rfl rfl (by simp)
  · rw [encodeRuneZ_two h.1 h.2]
    clear h2
    obtain ⟨h3, h4⟩ := h
    go_enter Try.func9, Try.ntmps9
    go_wp2
    go_ret
    exact own_row w _ _ _ rfl rfl (by simp)
  · rw [encodeRuneZ_three h]
    have h3 : 2048 ≤ r := by omega
    have h4 : r ≤ 65535 := by omega
    clear h2 h
    go_enter Try.func9, Try.ntmps9
    go_wp2
    go_ret
    exact own_row w _ _ _ rfl rfl (by simp)
  · rw [encodeRuneZ_four h.1 h.2]
    clear h2
    obtain ⟨h3, h4⟩ := h
    go_enter Try.func9, Try.ntmps9
    go_wp2
    go_ret
    exact own_row w _ _ _ rfl rfl (by simp)
end Go.Proofs.Yteloimkpkbcahaa
