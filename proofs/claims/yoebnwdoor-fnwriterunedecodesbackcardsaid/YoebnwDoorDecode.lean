/-
  OUR OWN WORK. THE WALK of zzDecode (17).
-/
import Derived.Test.YoebnwDoorViews
import Derived.Test.YoebnwDoorPlain
namespace Go.Proofs.YoebnwDoor
open Go.RowKit

set_option maxHeartbeats 400000 in
theorem dec_one (g o n cap i : Nat) (c : Int) (w : World) (hi : i < n) (hc : w.cell? ⟨g, o + i, none⟩ = some (.int .u8 c)) (h0 : 0 ≤ c) (h1 : c < 128) :
    Calls Ebng.prog 17 #[.slice (some ⟨g, o, none⟩) n cap, .int .i64 i] w fun e w' => e = .returned (.tuple #[.int .i32 c, .int .i64 1]) ∧ ∃ q, w' = w.drewN q := by
  go_enter Ebng.func17, Ebng.ntmps17
  go_wp2
  go_ret2
  exact ⟨rfl, 0, rfl⟩

set_option maxHeartbeats 400000 in
theorem dec_two (g o n cap i : Nat) (c c1 : Int) (w : World) (hi : i + 1 < n) (hn : n ≤ 1073741824) (hc : w.cell? ⟨g, o + i, none⟩ = some (.int .u8 c)) (hc1 : w.cell? ⟨g, o + (i + 1), none⟩ = some (.int .u8 c1)) (h0 : 128 ≤ c) (h1 : c < 256) (h2 : 0 ≤ c1) (h3 : c1 < 256)
    (e1 : bits .and .u8 c 224 = 192) :
    Calls Ebng.prog 17 #[.slice (some ⟨g, o, none⟩) n cap, .int .i64 i] w fun e w' => e = .returned (.tuple #[.int .i32 (c % 32 * 64 + c1 % 64), .int .i64 2]) ∧ ∃ q, w' = w.drewN q := by
  have hi0 : (i : Int) < n := by omega
  go_enter Ebng.func17, Ebng.ntmps17
  go_wp2
  go_ret2
  exact ⟨rfl, 0, rfl⟩

set_option maxHeartbeats 1000000 in
theorem dec_three (g o n cap i : Nat) (c c1 c2 : Int) (w : World) (hi : i + 2 < n) (hn : n ≤ 1073741824) (hc : w.cell? ⟨g, o + i, none⟩ = some (.int .u8 c)) (hc1 : w.cell? ⟨g, o + (i + 1), none⟩ = some (.int .u8 c1)) (hc2 : w.cell? ⟨g, o + (i + 2), none⟩ = some (.int .u8 c2))
    (h0 : 128 ≤ c) (h1 : c < 256) (h2 : 0 ≤ c1) (h3 : c1 < 256) (h4 : 0 ≤ c2) (h5 : c2 < 256) (e1 : bits .and .u8 c 224 = 224) (e2 : bits .and .u8 c 240 = 224) :
    Calls Ebng.prog 17 #[.slice (some ⟨g, o, none⟩) n cap, .int .i64 i] w fun e w' => e = .returned (.tuple #[.int .i32 (c % 16 * 4096 + c1 % 64 * 64 + c2 % 64), .int .i64 3]) ∧ ∃ q, w' = w.drewN q := by
  have hi0 : (i : Int) < n := by omega
  have hi1 : (i : Int) + 1 < n := by omega
  have hi2 : (i : Int) + 2 < n := by omega
  go_enter Ebng.func17, Ebng.ntmps17
  go_wp2
  go_quiet (fail)
  go_wp2
  go_ret2
  exact ⟨rfl, nq, rfl⟩

set_option maxHeartbeats 1000000 in
theorem dec_four (g o n cap i : Nat) (c c1 c2 c3 : Int) (w : World) (hi : i + 3 < n) (hn : n ≤ 1073741824) (hc : w.cell? ⟨g, o + i, none⟩ = some (.int .u8 c)) (hc1 : w.cell? ⟨g, o + (i + 1), none⟩ = some (.int .u8 c1)) (hc2 : w.cell? ⟨g, o + (i + 2), none⟩ = some (.int .u8 c2)) (hc3 : w.cell? ⟨g, o + (i + 3), none⟩ = some (.int .u8 c3))
    (h0 : 128 ≤ c) (h1 : c < 256) (h2 : 0 ≤ c1) (h3 : c1 < 256) (h4 : 0 ≤ c2) (h5 : c2 < 256) (h6 : 0 ≤ c3) (h7 : c3 < 256) (e1 : bits .and .u8 c 224 = 224) (e2 : bits .and .u8 c 240 = 240) (e3 : bits .and .u8 c 248 = 240) :
    Calls Ebng.prog 17 #[.slice (some ⟨g, o, none⟩) n cap, .int .i64 i] w fun e w' => e = .returned (.tuple #[.int .i32 (c % 8 * 262144 + c1 % 64 * 4096 + c2 % 64 * 64 + c3 % 64), .int .i64 4]) ∧ ∃ q, w' = w.drewN q := by
  have hi0 : (i : Int) < n := by omega
  have hi1 : (i : Int) + 1 < n := by omega
  have hi2 : (i : Int) + 2 < n := by omega
  have hi3 : (i : Int) + 3 < n := by omega
  go_enter Ebng.func17, Ebng.ntmps17
  go_wp2
  go_quiet (fail)
  go_wp2
  go_ret2
  exact ⟨rfl, nq, rfl⟩

end Go.Proofs.YoebnwDoor
