/-
  OUR OWN WORK. zzDecode reads back what 'enc' has laid; the plain functions of the law FnWriteRuneDecodesBack.
-/
import Derived.Test.YoebnwDoorDecode
namespace Go.Proofs.YoebnwDoor
open Go.RowKit

/-! ### masks of a lead byte -/
set_option maxRecDepth 10000 in
theorem nat224a : ∀ n : Nat, n < 32 → (192 + n) &&& 224 = 192 := by decide
set_option maxRecDepth 10000 in
theorem nat224b : ∀ n : Nat, n < 32 → (224 + n) &&& 224 = 224 := by decide
set_option maxRecDepth 10000 in
theorem nat240a : ∀ n : Nat, n < 16 → (224 + n) &&& 240 = 224 := by decide
set_option maxRecDepth 10000 in
theorem nat240b : ∀ n : Nat, n < 16 → (240 + n) &&& 240 = 240 := by decide
set_option maxRecDepth 10000 in
theorem nat248 : ∀ n : Nat, n < 8 → (240 + n) &&& 248 = 240 := by decide

theorem and_of (a m v : Nat) (c : Int) (y : Int) (hc : c = a + y) (h0 : 0 ≤ y) (h1 : c < 256) (hm : m < 256) (h : (a + y.toNat) &&& m = v) : bits .and .u8 c (m : Int) = (v : Int) := by
  obtain ⟨n, rfl⟩ : ∃ n : Nat, y = n := ⟨y.toNat, by omega⟩
  rw [hc, show (a : Int) + (n : Int) = ((a + n : Nat) : Int) from by omega, u8_and_nat _ _ (by omega) hm]
  simp at h
  rw [h]

theorem and224_two {y : Int} (h0 : 0 ≤ y) (h1 : y < 32) : bits .and .u8 (192 + y) 224 = 192 := and_of 192 224 192 _ y rfl h0 (by omega) (by omega) (nat224a _ (by omega))
theorem and224_more {y : Int} (h0 : 0 ≤ y) (h1 : y < 32) : bits .and .u8 (224 + y) 224 = 224 := and_of 224 224 224 _ y rfl h0 (by omega) (by omega) (nat224b _ (by omega))
theorem and240_three {y : Int} (h0 : 0 ≤ y) (h1 : y < 16) : bits .and .u8 (224 + y) 240 = 224 := and_of 224 240 224 _ y rfl h0 (by omega) (by omega) (nat240a _ (by omega))
theorem and240_four {y : Int} (h0 : 0 ≤ y) (h1 : y < 16) : bits .and .u8 (240 + y) 240 = 240 := and_of 240 240 240 _ y rfl h0 (by omega) (by omega) (nat240b _ (by omega))
theorem and248_four {y : Int} (h0 : 0 ≤ y) (h1 : y < 8) : bits .and .u8 (240 + y) 248 = 240 := and_of 240 248 240 _ y rfl h0 (by omega) (by omega) (nat248 _ (by omega))

/-! ### what a rune decodes to -/
def dec (r : Int) : Int := if 1114111 < r ∨ (55296 ≤ r ∧ r ≤ 57343) then 65533 else r

/-- zzDecode at the place where 'enc r' lies. -/
theorem dec_any (g o cap n i : Nat) (r : Int) (h0 : 0 ≤ r) (w : World) (hn : n ≤ 1073741824) (hin : i + (enc r).length ≤ n)
    (hc : ∀ j, j < (enc r).length → w.cell? ⟨g, o + (i + j), none⟩ = some (.int .u8 ((enc r).getD j 0))) :
    Calls Ebng.prog 17 #[.slice (some ⟨g, o, none⟩) n cap, .int .i64 i] w fun e w' => e = .returned (.tuple #[.int .i32 (dec r), .int .i64 (enc r).length]) ∧ ∃ q, w' = w.drewN q := by
  by_cases n0 : r < 128
  · have hd : dec r = r := by unfold dec; rw [if_neg (by omega)]
    rw [enc_one n0] at hc hin ⊢
    have c0 := hc 0 (by simp)
    simp at c0 hin
    rw [hd, show r % 256 = r from by omega] at *
    exact dec_one g o n cap i r w (by omega) c0 h0 n0
  by_cases n1 : r ≤ 2047
  · have hd : dec r = r := by unfold dec; rw [if_neg (by omega)]
    rw [enc_two (by omega) n1] at hc hin ⊢
    have c0 := hc 0 (by simp)
    have c1 := hc 1 (by simp)
    simp at c0 c1 hin
    have := dec_two g o n cap i _ _ w (by omega) hn c0 c1 (by omega) (by omega) (by omega) (by omega) (and224_two (by omega) (by omega))
    rw [hd]
    rwa [show (192 + r / 64) % 32 * 64 + (128 + r % 64) % 64 = r from by omega] at this
  by_cases nb : 1114111 < r ∨ (55296 ≤ r ∧ r ≤ 57343)
  · have hd : dec r = 65533 := by unfold dec; rw [if_pos nb]
    rw [enc_bad nb] at hc hin ⊢
    have c0 := hc 0 (by simp)
    have c1 := hc 1 (by simp)
    have c2 := hc 2 (by simp)
    simp at c0 c1 c2 hin
    have := dec_three g o n cap i _ _ _ w (by omega) hn c0 c1 c2 (by omega) (by omega) (by omega) (by omega) (by omega) (by omega) (and224_more (y := 15) (by omega) (by omega)) (and240_three (y := 15) (by omega) (by omega))
    rw [hd]
    exact this
  by_cases n4 : r ≤ 65535
  · have hd : dec r = r := by unfold dec; rw [if_neg nb]
    rw [enc_three (by omega) (by omega) n4] at hc hin ⊢
    have c0 := hc 0 (by simp)
    have c1 := hc 1 (by simp)
    have c2 := hc 2 (by simp)
    simp at c0 c1 c2 hin
    have := dec_three g o n cap i _ _ _ w (by omega) hn c0 c1 c2 (by omega) (by omega) (by omega) (by omega) (by omega) (by omega) (and224_more (by omega) (by omega)) (and240_three (by omega) (by omega))
    rw [hd]
    rwa [show (224 + r / 4096) % 16 * 4096 + (128 + r / 64 % 64) % 64 * 64 + (128 + r % 64) % 64 = r from by omega] at this
  · have hd : dec r = r := by unfold dec; rw [if_neg nb]
    rw [enc_four (by omega) (by omega)] at hc hin ⊢
    have c0 := hc 0 (by simp)
    have c1 := hc 1 (by simp)
    have c2 := hc 2 (by simp)
    have c3 := hc 3 (by simp)
    simp at c0 c1 c2 c3 hin
    have := dec_four g o n cap i _ _ _ _ w (by omega) hn c0 c1 c2 c3 (by omega) (by omega) (by omega) (by omega) (by omega) (by omega) (by omega) (by omega)
      (show bits .and .u8 (240 + r / 262144) 224 = 224 by
        have := and224_more (y := 16 + r / 262144) (by omega) (by omega)
        rwa [show (224 : Int) + (16 + r / 262144) = 240 + r / 262144 from by omega] at this)
      (and240_four (by omega) (by omega)) (and248_four (by omega) (by omega))
    rw [hd]
    rwa [show (240 + r / 262144) % 8 * 262144 + (128 + r / 4096 % 64) % 64 * 4096 + (128 + r / 64 % 64) % 64 * 64 + (128 + r % 64) % 64 = r from by omega] at this

/-! ### runes one behind another -/
def encAll : List Int → List Int
  | [] => []
  | r :: rs => enc r ++ encAll rs

theorem encAll_append (a b : List Int) : encAll (a ++ b) = encAll a ++ encAll b := by
  induction a with
  | nil => rfl
  | cons x a ih => simp [encAll, ih]

theorem encAll_snoc (rs : List Int) (k : Nat) (h : k < rs.length) : encAll (rs.take (k + 1)) = encAll (rs.take k) ++ enc (rs.getD k 0) := by
  rw [List.take_succ_eq_append_getElem h, encAll_append]
  simp [encAll, h]

theorem encAll_split (rs : List Int) (k : Nat) (h : k < rs.length) : encAll rs = encAll (rs.take k) ++ (enc (rs.getD k 0) ++ encAll (rs.drop (k + 1))) := by
  rw [← List.append_assoc, ← encAll_snoc rs k h, ← encAll_append, List.take_append_drop]

theorem encAll_length (rs : List Int) : (encAll rs).length ≤ 4 * rs.length := by
  induction rs with
  | nil => simp [encAll]
  | cons x a ih =>
    have := enc_length x
    simp [encAll]
    omega

end Go.Proofs.YoebnwDoor
