/- Contracts: the library's decoders, by unicode/utf8 and through impl: what is decoded at both ends, of bytes and of strings. -/
import Derived.Test.YtcgpnmlemjldaaaDoorTabs
import Derived.Test.YtcgpnmlemjldaaaDoorShelf
import Derived.Test.YtcgpnmlemjldaaaDoorPlainC
namespace Go.Proofs.YtcgpnmlemjldaaaDoor
open Go.RowKit Go.Lib
set_option linter.unusedVariables false
theorem decodeGo_eq (l : List UInt8) : decodeGo (strOf l) = dec l := by
  unfold decodeGo dec
  rw [strOf_size]
  by_cases h : l = []
  · subst h; rfl
  · rw [if_neg (by intro h0; exact h (List.eq_nil_of_length_eq_zero h0)), if_neg h]; rfl
theorem decodeGo_str (s : ByteArray) : decodeGo s = dec s.data.toList := by
  have := decodeGo_eq s.data.toList
  rwa [strOf_list] at this
theorem By.shelfU {w : World} {A : Option Addr} {n : Nat} {l : List UInt8} (h : By w A n l) (h0 : 0 < n) :
    ∃ b off, A = some ⟨b, off, none⟩ ∧ ∀ j, j < (strOf l).size → w.cell? ⟨b, off + j, none⟩ = some (.int .u8 ((strOf l).get! j).toNat) := by
  obtain ⟨b, off, e, hb, hc⟩ := h.open_ h0
  refine ⟨b, off, e, fun j hj => ?_⟩
  rw [strOf_size, h.len] at hj
  rw [hc j hj, ← getD_get!', strOf_data]
set_option maxHeartbeats 400000 in
theorem utf8_slow0 (A : Option Addr) (c : Nat) (w : World) : Calls Tryd.prog 50 #[.slice A 0 c] w fun e w' => e = .returned (.tuple #[.int .i32 65533, .int .i64 0]) ∧ w = w' := by
  go_enter Tryd.func50, Tryd.ntmps50
  go_wp2_with fail
  go_ret2
  exact ⟨rfl, rfl⟩
set_option maxHeartbeats 400000 in
theorem utf8_decode0 (A : Option Addr) (c : Nat) (w : World) : Calls Tryd.prog 35 #[.slice A 0 c] w fun e w' => e = .returned (.tuple #[.int .i32 65533, .int .i64 0]) ∧ Nx w w' := by
  go_enter Tryd.func35, Tryd.ntmps35
  go_wp2_with fail
  go_loop [8] (fun i => i = .int .i64 0) (fun _ => 0)
  case atStart => rfl
  case round =>
    subst hrel
    go_wp2_with (go_at_call 50; refine (utf8_slow0 _ _ _).mono ?_; rintro e w' ⟨rfl, rfl⟩)
    go_ret2
    exact ⟨rfl, Nx.refl _⟩
theorem utf8_decode (A : Option Addr) (n c : Nat) (l : List UInt8) (w : World) (hT : Tabs w) (hl : By w A n l) :
    Calls Tryd.prog 35 #[.slice A n c] w fun e w' => e = .returned (.tuple #[.int .i32 ((dec l).1 : Nat), .int .i64 ((dec l).2 : Nat)]) ∧ Nx w w' := by
  have hlen := hl.len
  by_cases h0 : n = 0
  · subst h0
    have : l = [] := List.eq_nil_of_length_eq_zero hlen
    subst this
    exact utf8_decode0 A c w
  · obtain ⟨b, off, rfl, hc⟩ := hl.shelfU (by omega)
    have h := Any7.utf8_DecodeRune Tryd.laysB32 (strOf l) b off c w hT hc
    rw [strOf_size, hlen, decodeGo_eq] at h
    exact h
set_option maxHeartbeats 400000 in
theorem decode_any (A : Option Addr) (n c : Nat) (l : List UInt8) (w : World) (hT : Tabs w) (hl : By w A n l) :
    Calls Tryd.prog 15 #[.slice A n c] w fun e w' => e = .returned (.tuple #[.int .i32 ((dec l).1 : Nat), .int .i64 ((dec l).2 : Nat)]) ∧ Nx w w' := by
  obtain ⟨R, hR⟩ : ∃ R, (dec l).1 = R := ⟨_, rfl⟩
  obtain ⟨K, hK⟩ : ∃ K, (dec l).2 = K := ⟨_, rfl⟩
  have cd := utf8_decode A n c l w hT hl
  rw [hR, hK] at cd ⊢
  clear hR hK
  go_enter Tryd.func15, Tryd.ntmps15
  go_wp2_with (go_at_call 35; refine cd.mono ?_; rintro e w1 ⟨rfl, hn1⟩)
  go_ret2
  exact ⟨rfl, hn1⟩
theorem utf8_decodeS (s : ByteArray) (w : World) (hT : Tabs w) :
    Calls Tryd.prog 47 #[.string s] w fun e w' => e = .returned (.tuple #[.int .i32 ((dec s.data.toList).1 : Nat), .int .i64 ((dec s.data.toList).2 : Nat)]) ∧ Nx w w' := by
  have h := Any.utf8_DecodeRuneInString Tryd.lays197 s w hT
  rw [decodeGo_str] at h
  exact h
set_option maxHeartbeats 400000 in
theorem decodeS_any (s : ByteArray) (w : World) (hT : Tabs w) :
    Calls Tryd.prog 31 #[.string s] w fun e w' => e = .returned (.tuple #[.int .i32 ((dec s.data.toList).1 : Nat), .int .i64 ((dec s.data.toList).2 : Nat)]) ∧ Nx w w' := by
  have cd := utf8_decodeS s w hT
  obtain ⟨R, hR⟩ : ∃ R, (dec s.data.toList).1 = R := ⟨_, rfl⟩
  obtain ⟨K, hK⟩ : ∃ K, (dec s.data.toList).2 = K := ⟨_, rfl⟩
  rw [hR, hK] at cd ⊢
  clear hR hK
  go_enter Tryd.func31, Tryd.ntmps31
  go_wp2_with (go_at_call 47; refine cd.mono ?_; rintro e w1 ⟨rfl, hn1⟩)
  go_ret2
  exact ⟨rfl, hn1⟩
set_option maxHeartbeats 400000 in
theorem utf8_last0 (A : Option Addr) (c : Nat) (w : World) : Calls Tryd.prog 36 #[.slice A 0 c] w fun e w' => e = .returned (.tuple #[.int .i32 65533, .int .i64 0]) ∧ Nx w w' := by
  go_enter Tryd.func36, Tryd.ntmps36
  go_wp2_with fail
  go_ret2
  exact ⟨rfl, Nx.refl _⟩
theorem utf8_last (A : Option Addr) (n c : Nat) (l : List UInt8) (w : World) (hT : Tabs w) (hl : By w A n l) (hc : n ≤ c) (hn : n ≤ 9223372036854775807) :
    Calls Tryd.prog 36 #[.slice A n c] w fun e w' => e = .returned (.tuple #[.int .i32 ((decodeLastL l).1 : Nat), .int .i64 ((decodeLastL l).2 : Nat)]) ∧ Nx w w' := by
  have hlen := hl.len
  by_cases h0 : n = 0
  · subst h0
    have : l = [] := List.eq_nil_of_length_eq_zero hlen
    subst this
    exact utf8_last0 A c w
  · obtain ⟨b, off, rfl, hcl⟩ := hl.shelfU (by omega)
    have h := Any7.utf8_DecodeLastRune Tryd.laysB33 (strOf l) b off c w (by rw [strOf_size, hlen]; exact hc) hcl (by rw [strOf_size, hlen]; exact hn) hT
    rw [strOf_size, hlen, strOf_data] at h
    exact h
set_option maxHeartbeats 400000 in
theorem last_any (A : Option Addr) (n c : Nat) (l : List UInt8) (w : World) (hT : Tabs w) (hl : By w A n l) (hc : n ≤ c) (hn : n ≤ 9223372036854775807) :
    Calls Tryd.prog 16 #[.slice A n c] w fun e w' => e = .returned (.tuple #[.int .i32 ((decodeLastL l).1 : Nat), .int .i64 ((decodeLastL l).2 : Nat)]) ∧ Nx w w' := by
  obtain ⟨R, hR⟩ : ∃ R, (decodeLastL l).1 = R := ⟨_, rfl⟩
  obtain ⟨K, hK⟩ : ∃ K, (decodeLastL l).2 = K := ⟨_, rfl⟩
  have cd := utf8_last A n c l w hT hl hc hn
  rw [hR, hK] at cd ⊢
  clear hR hK
  go_enter Tryd.func16, Tryd.ntmps16
  go_wp2_with (go_at_call 36; refine cd.mono ?_; rintro e w1 ⟨rfl, hn1⟩)
  go_ret2
  exact ⟨rfl, hn1⟩
theorem validD_eq (l : List UInt8) : Lib.validD l = validB l := by
  refine steps_ind (P := fun l => Lib.validD l = validB l) rfl (fun l hne ih => ?_) l
  rw [validD_step l hne, validB_step l hne, ih]
  by_cases h : bad l
  · rw [if_pos (by simpa [bad] using h)]; simp [h]
  · rw [if_neg (by simpa [bad] using h)]; simp [h]
theorem utf8_validS (s : ByteArray) (w : World) (hT : Tabs w) (hs : s.size ≤ 9223372036854775807) :
    Calls Tryd.prog 49 #[.string s] w fun e w' => e = .returned (.bool (validB s.data.toList)) ∧ Nx w w' := by
  have h := Any.utf8_ValidString Tryd.lays196 s w hs hT
  rw [validD_eq] at h
  exact h
set_option maxHeartbeats 400000 in
theorem validS_any (s : ByteArray) (w : World) (hT : Tabs w) (hs : s.size ≤ 9223372036854775807) :
    Calls Tryd.prog 33 #[.string s] w fun e w' => e = .returned (.bool (validB s.data.toList)) ∧ Nx w w' := by
  have cd := utf8_validS s w hT hs
  obtain ⟨R, hR⟩ : ∃ R, validB s.data.toList = R := ⟨_, rfl⟩
  rw [hR] at cd ⊢
  clear hR
  go_enter Tryd.func33, Tryd.ntmps33
  go_wp2_with (go_at_call 49; refine cd.mono ?_; rintro e w1 ⟨rfl, hn1⟩)
  go_ret
  exact ⟨rfl, hn1⟩
end Go.Proofs.YtcgpnmlemjldaaaDoor
