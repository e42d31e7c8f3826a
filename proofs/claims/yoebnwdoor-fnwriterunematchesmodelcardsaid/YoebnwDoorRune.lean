/-
  OUR OWN WORK. THE WALKS of utf8.RuneLen (21), utf8.encodeRuneNonASCII (23) and utf8.EncodeRune (22) beyond ASCII, over the given program. (The arms are after the guide's shelf, its text EncodeRuneArms, turned to this program.)
-/
import Derived.Test.YoebnwDoorWrite
import Derived.Test.YoebnwDoorPlain
namespace Go.Proofs.YoebnwDoor
open Go.RowKit

set_option maxHeartbeats 1000000 in
theorem runeLen_any (r : Int) (w : World) : Calls Ebng.prog 21 #[.int .i32 r] w fun e w' => e = .returned (.int .i64 (rl r)) ∧ w' = w := by
  go_enter Ebng.func21, Ebng.ntmps21
  go_wp2
  all_goals (go_ret; refine ⟨?_, rfl⟩; unfold rl; (repeat' split) <;> first | rfl | (exfalso; omega))

set_option maxHeartbeats 4000000 in
set_option maxRecDepth 100000 in
theorem non_two (b off len cap : Nat) (r : Int) (h0 : 128 ≤ r) (h1 : r ≤ 2047) (w : World) (hl : 2 ≤ len)
    (hc : ∀ j, j < 2 → (w.cell? ⟨b, off + j, none⟩).isSome = true) (hf : ∀ j, j < 2 → w.frozen? ⟨b, off + j, none⟩ = false) :
    Calls Ebng.prog 23 #[.slice (some ⟨b, off, none⟩) len cap, .int .i32 r] w fun e w' => e = .returned (.int .i64 2) ∧ w' = w.setCells b off [.int .u8 (192 + r / 64), .int .u8 (128 + r % 64)] := by
  obtain ⟨c0, hc0⟩ := Option.isSome_iff_exists.1 (hc 0 (by omega)); have hf0 := hf 0 (by omega)
  obtain ⟨c1, hc1⟩ := Option.isSome_iff_exists.1 (hc 1 (by omega)); have hf1 := hf 1 (by omega)
  simp only [Nat.add_zero] at hc0 hf0
  clear hc hf
  go_enter Ebng.func23, Ebng.ntmps23
  go_wp2
  go_ret
  exact ⟨rfl, rfl⟩

set_option maxHeartbeats 4000000 in
set_option maxRecDepth 100000 in
theorem non_three_lo (b off len cap : Nat) (r : Int) (h0 : 2048 ≤ r) (h1 : r < 55296) (w : World) (hl : 3 ≤ len)
    (hc : ∀ j, j < 3 → (w.cell? ⟨b, off + j, none⟩).isSome = true) (hf : ∀ j, j < 3 → w.frozen? ⟨b, off + j, none⟩ = false) :
    Calls Ebng.prog 23 #[.slice (some ⟨b, off, none⟩) len cap, .int .i32 r] w fun e w' => e = .returned (.int .i64 3) ∧ w' = w.setCells b off [.int .u8 (224 + r / 4096), .int .u8 (128 + r / 64 % 64), .int .u8 (128 + r % 64)] := by
  obtain ⟨c0, hc0⟩ := Option.isSome_iff_exists.1 (hc 0 (by omega)); have hf0 := hf 0 (by omega)
  obtain ⟨c1, hc1⟩ := Option.isSome_iff_exists.1 (hc 1 (by omega)); have hf1 := hf 1 (by omega)
  obtain ⟨c2, hc2⟩ := Option.isSome_iff_exists.1 (hc 2 (by omega)); have hf2 := hf 2 (by omega)
  simp only [Nat.add_zero] at hc0 hf0
  clear hc hf
  go_enter Ebng.func23, Ebng.ntmps23
  go_wp2
  go_ret
  exact ⟨rfl, rfl⟩

set_option maxHeartbeats 4000000 in
set_option maxRecDepth 100000 in
theorem non_three_hi (b off len cap : Nat) (r : Int) (h0 : 57343 < r) (h1 : r ≤ 65535) (w : World) (hl : 3 ≤ len)
    (hc : ∀ j, j < 3 → (w.cell? ⟨b, off + j, none⟩).isSome = true) (hf : ∀ j, j < 3 → w.frozen? ⟨b, off + j, none⟩ = false) :
    Calls Ebng.prog 23 #[.slice (some ⟨b, off, none⟩) len cap, .int .i32 r] w fun e w' => e = .returned (.int .i64 3) ∧ w' = w.setCells b off [.int .u8 (224 + r / 4096), .int .u8 (128 + r / 64 % 64), .int .u8 (128 + r % 64)] := by
  obtain ⟨c0, hc0⟩ := Option.isSome_iff_exists.1 (hc 0 (by omega)); have hf0 := hf 0 (by omega)
  obtain ⟨c1, hc1⟩ := Option.isSome_iff_exists.1 (hc 1 (by omega)); have hf1 := hf 1 (by omega)
  obtain ⟨c2, hc2⟩ := Option.isSome_iff_exists.1 (hc 2 (by omega)); have hf2 := hf 2 (by omega)
  simp only [Nat.add_zero] at hc0 hf0
  clear hc hf
  go_enter Ebng.func23, Ebng.ntmps23
  go_wp2
  go_ret
  exact ⟨rfl, rfl⟩

set_option maxHeartbeats 4000000 in
set_option maxRecDepth 100000 in
theorem non_four (b off len cap : Nat) (r : Int) (h0 : 65536 ≤ r) (h1 : r ≤ 1114111) (w : World) (hl : 4 ≤ len)
    (hc : ∀ j, j < 4 → (w.cell? ⟨b, off + j, none⟩).isSome = true) (hf : ∀ j, j < 4 → w.frozen? ⟨b, off + j, none⟩ = false) :
    Calls Ebng.prog 23 #[.slice (some ⟨b, off, none⟩) len cap, .int .i32 r] w fun e w' => e = .returned (.int .i64 4) ∧ w' = w.setCells b off [.int .u8 (240 + r / 262144), .int .u8 (128 + r / 4096 % 64), .int .u8 (128 + r / 64 % 64), .int .u8 (128 + r % 64)] := by
  obtain ⟨c0, hc0⟩ := Option.isSome_iff_exists.1 (hc 0 (by omega)); have hf0 := hf 0 (by omega)
  obtain ⟨c1, hc1⟩ := Option.isSome_iff_exists.1 (hc 1 (by omega)); have hf1 := hf 1 (by omega)
  obtain ⟨c2, hc2⟩ := Option.isSome_iff_exists.1 (hc 2 (by omega)); have hf2 := hf 2 (by omega)
  obtain ⟨c3, hc3⟩ := Option.isSome_iff_exists.1 (hc 3 (by omega)); have hf3 := hf 3 (by omega)
  simp only [Nat.add_zero] at hc0 hf0
  clear hc hf
  go_enter Ebng.func23, Ebng.ntmps23
  go_wp2
  go_ret
  exact ⟨rfl, rfl⟩

set_option maxHeartbeats 4000000 in
set_option maxRecDepth 100000 in
theorem non_surrogate (b off len cap : Nat) (r : Int) (h0 : 55296 ≤ r) (h1 : r ≤ 57343) (w : World) (hl : 3 ≤ len)
    (hc : ∀ j, j < 3 → (w.cell? ⟨b, off + j, none⟩).isSome = true) (hf : ∀ j, j < 3 → w.frozen? ⟨b, off + j, none⟩ = false) :
    Calls Ebng.prog 23 #[.slice (some ⟨b, off, none⟩) len cap, .int .i32 r] w fun e w' => e = .returned (.int .i64 3) ∧ w' = w.setCells b off [.int .u8 (239), .int .u8 (191), .int .u8 (189)] := by
  obtain ⟨c0, hc0⟩ := Option.isSome_iff_exists.1 (hc 0 (by omega)); have hf0 := hf 0 (by omega)
  obtain ⟨c1, hc1⟩ := Option.isSome_iff_exists.1 (hc 1 (by omega)); have hf1 := hf 1 (by omega)
  obtain ⟨c2, hc2⟩ := Option.isSome_iff_exists.1 (hc 2 (by omega)); have hf2 := hf 2 (by omega)
  simp only [Nat.add_zero] at hc0 hf0
  clear hc hf
  go_enter Ebng.func23, Ebng.ntmps23
  go_wp2
  go_ret
  exact ⟨rfl, rfl⟩

set_option maxHeartbeats 4000000 in
set_option maxRecDepth 100000 in
theorem non_big (b off len cap : Nat) (r : Int) (h0 : 1114111 < r) (h1 : r ≤ 2147483647) (w : World) (hl : 3 ≤ len)
    (hc : ∀ j, j < 3 → (w.cell? ⟨b, off + j, none⟩).isSome = true) (hf : ∀ j, j < 3 → w.frozen? ⟨b, off + j, none⟩ = false) :
    Calls Ebng.prog 23 #[.slice (some ⟨b, off, none⟩) len cap, .int .i32 r] w fun e w' => e = .returned (.int .i64 3) ∧ w' = w.setCells b off [.int .u8 (239), .int .u8 (191), .int .u8 (189)] := by
  obtain ⟨c0, hc0⟩ := Option.isSome_iff_exists.1 (hc 0 (by omega)); have hf0 := hf 0 (by omega)
  obtain ⟨c1, hc1⟩ := Option.isSome_iff_exists.1 (hc 1 (by omega)); have hf1 := hf 1 (by omega)
  obtain ⟨c2, hc2⟩ := Option.isSome_iff_exists.1 (hc 2 (by omega)); have hf2 := hf 2 (by omega)
  simp only [Nat.add_zero] at hc0 hf0
  clear hc hf
  go_enter Ebng.func23, Ebng.ntmps23
  go_wp2
  go_ret
  exact ⟨rfl, rfl⟩

/-- utf8.encodeRuneNonASCII from 128 on: the cells of 'enc r' are laid. -/
theorem non_any (b off cap : Nat) (r : Int) (h0 : 128 ≤ r) (h1 : r ≤ 2147483647) (w : World)
    (hc : ∀ j, j < 4 → (w.cell? ⟨b, off + j, none⟩).isSome = true) (hf : ∀ j, j < 4 → w.frozen? ⟨b, off + j, none⟩ = false) :
    Calls Ebng.prog 23 #[.slice (some ⟨b, off, none⟩) 4 cap, .int .i32 r] w fun e w' => e = .returned (.int .i64 (enc r).length) ∧ w' = w.setCells b off (cb (enc r)) := by
  by_cases n1 : r ≤ 2047
  · rw [enc_two h0 n1]
    exact non_two b off 4 cap r h0 n1 w (by omega) (fun j hj => hc j (by omega)) (fun j hj => hf j (by omega))
  by_cases n2 : r < 55296
  · rw [enc_three (by omega) (by omega) (by omega)]
    exact non_three_lo b off 4 cap r (by omega) n2 w (by omega) (fun j hj => hc j (by omega)) (fun j hj => hf j (by omega))
  by_cases n3 : r ≤ 57343
  · rw [enc_bad (.inr ⟨by omega, n3⟩)]
    exact non_surrogate b off 4 cap r (by omega) n3 w (by omega) (fun j hj => hc j (by omega)) (fun j hj => hf j (by omega))
  by_cases n4 : r ≤ 65535
  · rw [enc_three (by omega) (by omega) n4]
    exact non_three_hi b off 4 cap r (by omega) n4 w (by omega) (fun j hj => hc j (by omega)) (fun j hj => hf j (by omega))
  by_cases n5 : r ≤ 1114111
  · rw [enc_four (by omega) n5]
    exact non_four b off 4 cap r (by omega) n5 w (by omega) hc hf
  · rw [enc_bad (.inl (by omega))]
    exact non_big b off 4 cap r (by omega) h1 w (by omega) (fun j hj => hc j (by omega)) (fun j hj => hf j (by omega))

set_option maxHeartbeats 400000 in
/-- utf8.EncodeRune from 128 on. -/
theorem encode_any (b off cap : Nat) (r : Int) (h0 : 128 ≤ r) (h1 : r ≤ 2147483647) (w : World)
    (hc : ∀ j, j < 4 → (w.cell? ⟨b, off + j, none⟩).isSome = true) (hf : ∀ j, j < 4 → w.frozen? ⟨b, off + j, none⟩ = false) :
    Calls Ebng.prog 22 #[.slice (some ⟨b, off, none⟩) 4 cap, .int .i32 r] w fun e w' => e = .returned (.int .i64 (enc r).length) ∧ w' = w.setCells b off (cb (enc r)) := by
  have hn := non_any b off cap r h0 h1 w hc hf
  obtain ⟨W', hW⟩ : ∃ W', W' = w.setCells b off (cb (enc r)) := ⟨_, rfl⟩
  obtain ⟨k, hk⟩ : ∃ k, k = (enc r).length := ⟨_, rfl⟩
  rw [← hW, ← hk] at hn ⊢
  clear hc hf hW hk
  go_enter Ebng.func22, Ebng.ntmps22
  go_wp2_with (go_at_call 23; refine hn.mono ?_; rintro e w' ⟨rfl, rfl⟩)
  go_ret
  exact ⟨rfl, rfl⟩

end Go.Proofs.YoebnwDoor
