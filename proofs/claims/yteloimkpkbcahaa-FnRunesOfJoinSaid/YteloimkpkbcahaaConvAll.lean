/- Contract: a string to runes, of any length that an int counts: the model's conversion asks for no room. -/
import Derived.Test.YteloimkpkbcahaaConv
namespace Go.Proofs.Yteloimkpkbcahaa
open Go.RowKit Go.Lib
set_option linter.unusedVariables false
theorem run_runes_all {P : Program} (w : World) (src dst e : TypeId) (s : ByteArray) (hs : P.underlying src = some .string) (hd : P.underlying dst = some (.slice e)) (he : P.underlying e = some (.int .i32)) :
    (convert src dst (.string s)).run P w = .ok (.slice (some ⟨w.heap.size, 0, none⟩) (Conv.runesFrom s s.size 0 #[]).size (grownCap w (Conv.runesFrom s s.size 0 #[]).size 0 e))
      (w.drew.alloc (.cells (Conv.runesFrom s s.size 0 #[] ++ Array.replicate (grownCap w (Conv.runesFrom s s.size 0 #[]).size 0 e - (Conv.runesFrom s s.size 0 #[]).size) (.int .i32 0)) e)) := by
  simp [convert, run_underlying hs, run_underlying hd, run_underlying he, Conv.stringToRunes, Question.forced, newRow, grownCap]
set_option maxHeartbeats 400000 in
theorem runesOf_all (s : ByteArray) (w : World) (hs : (runesL s.data.toList).length ≤ 9223372036854775807) : Calls Try.prog 5 #[.string s] w (NewS .i32 21 (runesL s.data.toList) w) := by
  have h0 := run_runes_all (P := Try.prog) w 9 22 21 s Try.underlying9 Try.underlying22 Try.underlying21
  rw [runesFrom_eq] at h0
  have hsz : ((runesL s.data.toList).map (Value.int .i32)).toArray.size = (runesL s.data.toList).length := by simp
  rw [hsz] at h0
  have hge := grownCap_ge w (runesL s.data.toList).length 0 21
  have hle := grownCap_le_maxLen w (runesL s.data.toList).length 0 21 (by simp only [maxLen]; omega)
  obtain ⟨n, hn⟩ : ∃ n, (runesL s.data.toList).length = n := ⟨_, rfl⟩
  obtain ⟨cap, hcap⟩ : ∃ cap, grownCap w (runesL s.data.toList).length 0 21 = cap := ⟨_, rfl⟩
  have hown := runes_own w (runesL s.data.toList) cap (by omega) (by omega)
  rw [hcap, hn] at h0
  rw [hn] at hown
  obtain ⟨o, ho⟩ : ∃ o, Obj.cells (((runesL s.data.toList).map (Value.int .i32)).toArray ++ Array.replicate (cap - n) (.int .i32 0)) 21 = o := ⟨_, rfl⟩
  rw [ho] at h0 hown
  have HO := Lib.hid hown
  clear hsz hge hle hcap hn ho hs hown
  go_enter Try.func5, Try.ntmps5
  go_wp2
  go_ret
  exact ⟨_, _, _, rfl, HO.out, ((Nx.refl _).drew).alloc _⟩
end Go.Proofs.Yteloimkpkbcahaa
