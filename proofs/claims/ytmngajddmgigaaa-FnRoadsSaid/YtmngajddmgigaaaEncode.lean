/- Contracts: EncodeRune, by unicode/utf8 into a row of the call's own, and through impl into a copy: the encoding stands in front, the rest as it was. -/
import Derived.Test.YtmngajddmgigaaaRows
import Derived.Test.YtmngajddmgigaaaShelf
import Derived.Test.YtmngajddmgigaaaAppend
import Derived.Test.YtmngajddmgigaaaFrame4
import Derived.Deep.DeepMust
namespace Go.Proofs.Ytmngajddmgigaaa
open Go.RowKit Go.Lib
set_option linter.unusedVariables false
theorem Own.put1 {k : IntKind} {t : TypeId} {B : Nat} {w : World} {g n cap : Nat} {zs : List Int} (h : Own k t B w (some ⟨g, 0, none⟩) n cap zs) (j : Nat) (z : Int) :
    Own k t B (w.setCell ⟨g, j, none⟩ (.int k z)) (some ⟨g, 0, none⟩) n cap (zs.set j z) ∧ w.grownBy (w.setCell ⟨g, j, none⟩ (.int k z)) (some g) := by
  obtain ⟨h1, h2⟩ := h.2.stored j (.int k z)
  refine ⟨⟨by rw [List.length_set]; exact h.1, ?_⟩, h2⟩
  rw [List.map_set]
  exact h1
theorem Own.loose {k : IntKind} {t : TypeId} {B : Nat} {w : World} {g n cap : Nat} {zs : List Int} (h : Own k t B w (some ⟨g, 0, none⟩) n cap zs) (j : Nat) : w.frozen? ⟨g, j, none⟩ = false := by
  rcases h.2.2 with ⟨h1, _⟩ | ⟨q, c, cur, h1, _, h3, _⟩
  · cases h1
  · injection h1 with h1
    injection h1 with h1
    injection h1 with h1
    subst h1
    simp [World.frozen?, h3]
theorem Own.addr {k : IntKind} {t : TypeId} {B : Nat} {w : World} {A : Option Addr} {n cap : Nat} {zs : List Int} (h : Own k t B w A n cap zs) (h0 : 0 < n) : ∃ g, A = some ⟨g, 0, none⟩ ∧ B ≤ g := by
  rcases h.2.2 with ⟨_, h2⟩ | ⟨g, c, cur, h1, h2, _⟩
  · omega
  · injection h1 with h1
    exact ⟨g, h1, h2⟩
def putL : List Int → Nat → List Int → List Int
  | zs, _, [] => zs
  | zs, o, v :: r => putL (zs.set o v) (o + 1) r
theorem putL_at : ∀ (vs zs pre : List Int), vs.length ≤ zs.length → putL (pre ++ zs) pre.length vs = pre ++ (vs ++ zs.drop vs.length)
  | [], zs, pre, _ => by simp [putL]
  | v :: r, [], pre, h => by simp at h
  | v :: r, z :: zs, pre, h => by
    have := putL_at r zs (pre ++ [v]) (by simpa using h)
    simp only [putL, List.set_append_right _ _ (Nat.le_refl _), Nat.sub_self, List.set_cons_zero]
    simpa using this
theorem Own.puts {k : IntKind} {t : TypeId} {B : Nat} {a : World} {g n cap : Nat} (ha : a.heap.size ≤ g) : ∀ (vs : List Int) (o : Nat) (w : World) (zs : List Int), Own k t B w (some ⟨g, 0, none⟩) n cap zs → Nx a w →
    Own k t B (w.setCells g o (vs.map (Value.int k))) (some ⟨g, 0, none⟩) n cap (putL zs o vs) ∧ Nx a (w.setCells g o (vs.map (Value.int k)))
  | [], o, w, zs, h, hx => ⟨h, hx⟩
  | v :: r, o, w, zs, h, hx => by
    obtain ⟨h1, h2⟩ := h.put1 o v
    have hx1 : Nx a (w.setCell ⟨g, o, none⟩ (.int k v)) := hx.grown h2 (fun q hq => by injection hq with hq; omega)
    exact Own.puts ha r (o + 1) _ _ h1 hx1
theorem utf8_encode (B : Nat) (A : Option Addr) (n c : Nat) (zs : List Int) (r : Int) (w : World) (ho : Own .u8 5 B w A n c zs) (hr0 : -2147483648 ≤ r) (hr1 : r ≤ 2147483647) (hn : 4 ≤ n) (a : World) (hx : Nx a w) (hB : a.heap.size ≤ B) :
    Calls Try.prog 32 #[.slice A n c, .int .i32 r] w fun e w' => e = .returned (.int .i64 ((encodeRune r).length : Nat)) ∧ Own .u8 5 B w' A n c (nums (encodeRune r) ++ zs.drop (encodeRune r).length) ∧ Nx a w' := by
  obtain ⟨g, rfl, hg⟩ := ho.addr (by omega)
  have hl4 := (enc_length r).2
  have hcl : (runeCells r).length = (encodeRune r).length := by rw [cells_encode, List.length_map, nums_length]
  have hz : zs.length = n := ho.len.symm
  have hcell : ∀ j, j < (runeCells r).length → (w.cell? ⟨g, 0 + j, none⟩).isSome = true := by
    intro j hj
    obtain ⟨b, off, e, _, hc⟩ := ho.sl.open_ (by omega)
    injection e with e
    injection e with e1 e2
    subst e1 e2
    rw [hc j (by omega)]
    rfl
  have h : Calls Try.prog 32 #[.slice (some ⟨g, 0, none⟩) n c, .int .i32 r] w fun e w' => e = .returned (.int .i64 (runeCells r).length) ∧ w' = w.setCells g 0 (runeCells r) :=
    Any7.utf8_EncodeRune Try.laysB30 g 0 n c r hr0 hr1 w (by omega) hcell (fun j _ => ho.loose _)
  refine h.mono ?_
  rintro e w' ⟨rfl, rfl⟩
  obtain ⟨k1, k2⟩ := Own.puts (a := a) (by omega) (nums (encodeRune r)) 0 w zs ho hx
  rw [cells_encode]
  refine ⟨by rw [List.length_map, nums_length], ?_, k2⟩
  have := putL_at (nums (encodeRune r)) zs [] (by rw [nums_length]; omega)
  simp only [List.nil_append, List.length_nil] at this
  rw [this, nums_length] at k1
  exact k1
theorem len_quad {m n : Nat} {x0 x1 x2 x3 : Int} {l : List UInt8} (h : m = (nums (quad x0 x1 x2 x3) ++ nums l).length) (hl : l.length = n) : m = 4 + n := by rw [h, List.length_append, nums_length, nums_length, quad_len, hl]
set_option maxHeartbeats 1000000 in
theorem encode_any (x0 x1 x2 x3 : Int) (hq : Byte4 x0 x1 x2 x3) (A : Option Addr) (n c : Nat) (l : List UInt8) (r : Int) (w : World) (hl : By w A n l) (hr0 : -2147483648 ≤ r) (hr1 : r ≤ 2147483647) (hn : n + 4 ≤ 140737488355328) :
    Calls Try.prog 24 #[.agg #[.int .u8 x0, .int .u8 x1, .int .u8 x2, .int .u8 x3], .slice A n c, .int .i32 r] w fun e w' => ∃ A' c', e = .returned (.tuple #[.slice A' (4 + n) c', .int .i64 ((encodeRune r).length : Nat)]) ∧
      Own .u8 5 w.heap.size w' A' (4 + n) c' (nums (encodeRune r ++ (quad x0 x1 x2 x3 ++ l).drop (encodeRune r).length)) ∧ Nx w w' := by
  obtain ⟨i0, hi0, hz0, hz1, hz2⟩ := info_parts u8_row
  have LX := Lib.hid hl.len
  have b1 : By (w.alloc (.cells #[.int .u8 x0, .int .u8 x1, .int .u8 x2, .int .u8 x3] 37)) (some ⟨w.heap.size, 0, none⟩) 4 (quad x0 x1 x2 x3) := by
    unfold By
    rw [quad_nums hq]
    exact (Own.new .u8 37 w.heap.size w (Nat.le_refl _) [x0, x1, x2, x3] _ 4 rfl rfl (by simp [maxLen])).sl
  have k1 : Nx w (w.alloc (.cells #[.int .u8 x0, .int .u8 x1, .int .u8 x2, .int .u8 x3] 37)) := (Nx.refl w).alloc _
  have k2 : Nx (w.alloc (.cells #[.int .u8 x0, .int .u8 x1, .int .u8 x2, .int .u8 x3] 37)) ((w.alloc (.cells #[.int .u8 x0, .int .u8 x1, .int .u8 x2, .int .u8 x3] 37)).alloc (.cells #[] 5)) := (Nx.refl _).alloc _
  have o1 : Own .u8 5 w.heap.size ((w.alloc (.cells #[.int .u8 x0, .int .u8 x1, .int .u8 x2, .int .u8 x3] 37)).alloc (.cells #[] 5)) (some ⟨w.heap.size + 1, 0, none⟩) 0 0 [] :=
    Own.new_at .u8 _ w.heap.size _ (w.heap.size + 1) (by simp) (by omega) [] _ 0 rfl rfl (by simp [maxLen])
  have f1 := b1.next k2
  have hx1 := k1.trans k2
  have f0 := hl.next hx1
  clear b1 k1 k2
  go_enter Try.func24, Try.ntmps24
  go_wp2_with (first
    | (at_builtin; have _t := o1; go_must (refine wpList_append_sl _ rfl (.tmp 10) (.tmp 11) _ rfl w.heap.size 5 i0 _ 1 Try.underlying22 hi0 hz0 hz1 hz2 rfl _ 0 0 [] rfl o1 _ 4 4 (nums (quad x0 x1 x2 x3)) rfl f1 (by simp only [maxLen]; omega) (by omega) hx1.size ?_); intro B1 m1' d1 w2 q1 hg1 hat1; have hx2 := hx1.app o1 hg1; have hm1 : m1' = 4 := q1.len; subst hm1; have f2 := hl.next hx2; rw [List.nil_append] at q1; clear _t o1 hx1 f0 f1 hg1 hat1)
    | (at_builtin; have _t := q1; go_must (refine wpList_append_sl _ rfl (.tmp 12) (.tmp 13) _ rfl w.heap.size 5 i0 _ 1 Try.underlying22 hi0 hz0 hz1 hz2 rfl B1 4 d1 _ rfl q1 A n c (nums l) rfl f2 (by simp only [maxLen]; omega) (by omega) hx2.size ?_); intro B2 m2' d2 w3 q2 hg2 hat2; have hx3 := hx2.app q1 hg2; have hm2 : m2' = 4 + n := len_quad q2.len LX.out; subst hm2; rw [← nums_append] at q2; clear _t q1 hg2 hat2 hx2 f2)
    | (go_at_call 32; refine (utf8_encode w.heap.size _ _ _ _ r _ q2 hr0 hr1 (by omega) w hx3 (Nat.le_refl _)).mono ?_; rintro e w4 ⟨rfl, q4, hx4⟩))
  go_ret2
  rw [nums_drop, ← nums_append] at q4
  exact ⟨_, _, rfl, q4, hx4⟩
/-- The same, with names for the numbers. -/
theorem encode_k (x0 x1 x2 x3 : Int) (hq : Byte4 x0 x1 x2 x3) (A : Option Addr) (n c : Nat) (l : List UInt8) (r : Int) (w : World) (hl : By w A n l) (hr0 : -2147483648 ≤ r) (hr1 : r ≤ 2147483647) (hn : n + 4 ≤ 140737488355328) :
    Calls Try.prog 24 #[.agg #[.int .u8 x0, .int .u8 x1, .int .u8 x2, .int .u8 x3], .slice A n c, .int .i32 r] w fun e w' => ∃ A' n' c' K, e = .returned (.tuple #[.slice A' n' c', .int .i64 (K : Nat)]) ∧
      Own .u8 5 w.heap.size w' A' n' c' (nums (encodeRune r ++ (quad x0 x1 x2 x3 ++ l).drop K)) ∧ Hid (K = (encodeRune r).length) ∧ 1 ≤ K ∧ K ≤ 4 ∧ n' = 4 + n ∧ n' ≤ c' ∧ Nx w w' := by
  refine (encode_any x0 x1 x2 x3 hq A n c l r w hl hr0 hr1 hn).mono ?_
  rintro e w' ⟨A', c', rfl, o, x⟩
  have := enc_length r
  exact ⟨A', _, c', _, rfl, o, rfl, this.1, this.2, rfl, o.cap_.1, x⟩
/-- The array's own copy, read behind other calls. -/
theorem box4 (x0 x1 x2 x3 : Int) (w w' : World) (h : Nx (w.alloc (.cells #[.int .u8 x0, .int .u8 x1, .int .u8 x2, .int .u8 x3] 37)) w') :
    w'.cell? ⟨w.heap.size, 0, none⟩ = some (.int .u8 x0) ∧ w'.cell? ⟨w.heap.size, 1, none⟩ = some (.int .u8 x1) ∧ w'.cell? ⟨w.heap.size, 2, none⟩ = some (.int .u8 x2) ∧ w'.cell? ⟨w.heap.size, 3, none⟩ = some (.int .u8 x3) := by
  have hb : w.heap.size < (w.alloc (.cells #[.int .u8 x0, .int .u8 x1, .int .u8 x2, .int .u8 x3] 37)).heap.size := by simp
  refine ⟨?_, ?_, ?_, ?_⟩
  · rw [h.cell (p := ⟨w.heap.size, 0, none⟩) hb, World.cell?_alloc_at _ _ _ _ rfl]; rfl
  · rw [h.cell (p := ⟨w.heap.size, 1, none⟩) hb, World.cell?_alloc_at _ _ _ _ rfl]; rfl
  · rw [h.cell (p := ⟨w.heap.size, 2, none⟩) hb, World.cell?_alloc_at _ _ _ _ rfl]; rfl
  · rw [h.cell (p := ⟨w.heap.size, 3, none⟩) hb, World.cell?_alloc_at _ _ _ _ rfl]; rfl
theorem box4_by (x0 x1 x2 x3 : Int) (hq : Byte4 x0 x1 x2 x3) (w w' : World) (h : Nx (w.alloc (.cells #[.int .u8 x0, .int .u8 x1, .int .u8 x2, .int .u8 x3] 37)) w') : By w' (some ⟨w.heap.size, 0, none⟩) 4 (quad x0 x1 x2 x3) := by
  refine By.next (w := w.alloc (.cells #[.int .u8 x0, .int .u8 x1, .int .u8 x2, .int .u8 x3] 37)) ?_ h
  unfold By
  rw [quad_nums hq]
  exact (Own.new .u8 37 w.heap.size w (Nat.le_refl _) [x0, x1, x2, x3] _ 4 rfl rfl (by simp [maxLen])).sl
end Go.Proofs.Ytmngajddmgigaaa
