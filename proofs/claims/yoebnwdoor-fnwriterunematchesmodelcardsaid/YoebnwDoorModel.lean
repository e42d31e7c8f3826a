/-
  OUR OWN WORK. THE WALK of zzEncodeModel (15): the bytes of 'enc r' in memory of its own.
-/
import Derived.Test.YoebnwDoorWriteRune
namespace Go.Proofs.YoebnwDoor
open Go.RowKit

theorem i32_and63 (x : Int) (h0 : 0 ≤ x) (h1 : x < 2147483648) : bits .and .i32 x 63 = x % 64 := bits_mask .i32 31 (by decide) wraps_i32 6 (by decide) x h0 h1
theorem low6 (x : Int) (h0 : 0 ≤ x) (h1 : x < 2147483648) : bits .or .u8 128 (bits .and .i32 x 63 % 256) = 128 + x % 64 := by
  rw [i32_and63 x h0 h1, show x % 64 % 256 = x % 64 from by omega]
  exact u8_or128 _ (by omega) (by omega)

set_option maxHeartbeats 1000000 in
set_option maxRecDepth 100000 in
theorem model_one (r : Int) (h : r < 128) (w : World) :
    Calls Ebng.prog 15 #[.int .i32 r] w fun e w' => e = .returned (.slice (some ⟨w.heap.size, 0, none⟩) 1 1) ∧ w' = w.alloc (.cells #[.int .u8 (r % 256)] 5) := by
  go_enter Ebng.func15, Ebng.ntmps15
  go_wp2
  go_ret
  exact ⟨rfl, rfl⟩

set_option maxHeartbeats 1000000 in
set_option maxRecDepth 100000 in
theorem model_two (r : Int) (h0 : 128 ≤ r) (h1 : r ≤ 2047) (w : World) :
    Calls Ebng.prog 15 #[.int .i32 r] w fun e w' => e = .returned (.slice (some ⟨w.heap.size, 0, none⟩) 2 2) ∧ w' = w.alloc (.cells #[.int .u8 (192 + r / 64), .int .u8 (128 + r % 64)] 5) := by
  go_enter Ebng.func15, Ebng.ntmps15
  go_wp2
  go_ret
  exact ⟨rfl, by rw [low6 r (by omega) (by omega)]⟩

set_option maxHeartbeats 1000000 in
set_option maxRecDepth 100000 in
theorem model_three_lo (r : Int) (h0 : 2048 ≤ r) (h1 : r < 55296) (w : World) :
    Calls Ebng.prog 15 #[.int .i32 r] w fun e w' => e = .returned (.slice (some ⟨w.heap.size, 0, none⟩) 3 3) ∧ w' = w.alloc (.cells #[.int .u8 (224 + r / 4096), .int .u8 (128 + r / 64 % 64), .int .u8 (128 + r % 64)] 5) := by
  go_enter Ebng.func15, Ebng.ntmps15
  go_wp2
  go_ret
  exact ⟨rfl, by rw [low6 (r / 64) (by omega) (by omega), low6 r (by omega) (by omega)]⟩

set_option maxHeartbeats 1000000 in
set_option maxRecDepth 100000 in
theorem model_three_hi (r : Int) (h0 : 57343 < r) (h1 : r ≤ 65535) (w : World) :
    Calls Ebng.prog 15 #[.int .i32 r] w fun e w' => e = .returned (.slice (some ⟨w.heap.size, 0, none⟩) 3 3) ∧ w' = w.alloc (.cells #[.int .u8 (224 + r / 4096), .int .u8 (128 + r / 64 % 64), .int .u8 (128 + r % 64)] 5) := by
  go_enter Ebng.func15, Ebng.ntmps15
  go_wp2
  go_ret
  exact ⟨rfl, by rw [low6 (r / 64) (by omega) (by omega), low6 r (by omega) (by omega)]⟩

set_option maxHeartbeats 1000000 in
set_option maxRecDepth 100000 in
theorem model_four (r : Int) (h0 : 65536 ≤ r) (h1 : r ≤ 1114111) (w : World) :
    Calls Ebng.prog 15 #[.int .i32 r] w fun e w' => e = .returned (.slice (some ⟨w.heap.size, 0, none⟩) 4 4) ∧ w' = w.alloc (.cells #[.int .u8 (240 + r / 262144), .int .u8 (128 + r / 4096 % 64), .int .u8 (128 + r / 64 % 64), .int .u8 (128 + r % 64)] 5) := by
  go_enter Ebng.func15, Ebng.ntmps15
  go_wp2
  go_ret
  exact ⟨rfl, by rw [low6 (r / 4096) (by omega) (by omega), low6 (r / 64) (by omega) (by omega), low6 r (by omega) (by omega)]⟩

set_option maxHeartbeats 1000000 in
set_option maxRecDepth 100000 in
theorem model_surrogate (r : Int) (h0 : 55296 ≤ r) (h1 : r ≤ 57343) (w : World) :
    Calls Ebng.prog 15 #[.int .i32 r] w fun e w' => e = .returned (.slice (some ⟨w.heap.size, 0, none⟩) 3 3) ∧ w' = w.alloc (.cells #[.int .u8 (239), .int .u8 (191), .int .u8 (189)] 5) := by
  go_enter Ebng.func15, Ebng.ntmps15
  go_wp2
  go_ret
  exact ⟨rfl, rfl⟩

set_option maxHeartbeats 1000000 in
set_option maxRecDepth 100000 in
theorem model_big (r : Int) (h0 : 1114111 < r) (h1 : r ≤ 2147483647) (w : World) :
    Calls Ebng.prog 15 #[.int .i32 r] w fun e w' => e = .returned (.slice (some ⟨w.heap.size, 0, none⟩) 3 3) ∧ w' = w.alloc (.cells #[.int .u8 (239), .int .u8 (191), .int .u8 (189)] 5) := by
  go_enter Ebng.func15, Ebng.ntmps15
  go_wp2
  go_ret
  exact ⟨rfl, rfl⟩

theorem own_lit (w : World) (zs : List Int) (hz : zs.length ≤ 4) : Own (w.alloc (.cells (cb zs).toArray 5)) w.heap.size (.slice (some ⟨w.heap.size, 0, none⟩) zs.length zs.length) zs := by
  have h := World.ownsRow_lit (base := w.heap.size) (e := 5) (size := 1) w (cb zs).toArray zs.length (Nat.le_refl _) (by unfold maxLen; omega) (by simp [cb])
  simpa [Own] using h

theorem of_arm {w : World} {r : Int} {zs : List Int} (he : enc r = zs) (hz : zs.length ≤ 4) (h : Calls Ebng.prog 15 #[.int .i32 r] w fun e w' => e = .returned (.slice (some ⟨w.heap.size, 0, none⟩) zs.length zs.length) ∧ w' = w.alloc (.cells (cb zs).toArray 5)) :
    Calls Ebng.prog 15 #[.int .i32 r] w fun e w' => ∃ v', e = .returned v' ∧ Own w' w.heap.size v' (enc r) ∧ Below w.heap.size w w' := by
  rw [he]
  exact h.mono fun e w' ⟨h1, h2⟩ => ⟨_, h1, by rw [h2]; exact own_lit w zs hz, by rw [h2]; exact (Below.refl _ _).alloc (Nat.le_refl _) _⟩

/-- zzEncodeModel, whole. -/
theorem model_any (r : Int) (hr : r ≤ 2147483647) (w : World) :
    Calls Ebng.prog 15 #[.int .i32 r] w fun e w' => ∃ v', e = .returned v' ∧ Own w' w.heap.size v' (enc r) ∧ Below w.heap.size w w' := by
  by_cases n0 : r < 128
  · exact of_arm (enc_one n0) (by simp) (model_one r n0 w)
  by_cases n1 : r ≤ 2047
  · exact of_arm (enc_two (by omega) n1) (by simp) (model_two r (by omega) n1 w)
  by_cases n2 : r < 55296
  · exact of_arm (enc_three (by omega) (by omega) (by omega)) (by simp) (model_three_lo r (by omega) n2 w)
  by_cases n3 : r ≤ 57343
  · exact of_arm (enc_bad (.inr ⟨by omega, n3⟩)) (by simp) (model_surrogate r (by omega) n3 w)
  by_cases n4 : r ≤ 65535
  · exact of_arm (enc_three (by omega) (by omega) n4) (by simp) (model_three_hi r (by omega) n4 w)
  by_cases n5 : r ≤ 1114111
  · exact of_arm (enc_four (by omega) n5) (by simp) (model_four r (by omega) n5 w)
  · exact of_arm (enc_bad (.inl (by omega))) (by simp) (model_big r (by omega) hr w)

end Go.Proofs.YoebnwDoor
