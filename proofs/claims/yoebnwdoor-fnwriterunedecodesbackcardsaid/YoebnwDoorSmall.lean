/-
  OUR OWN WORK. THE WALKS of zzClone and zzEq.
-/
import Derived.Test.YoebnwDoorBase
namespace Go.Proofs.YoebnwDoor
open Go.RowKit

/-! ### zzClone (8) -/

theorem clone_nil (w : World) : Calls Ebng.prog 8 #[.slice none 0 0] w fun e w' => e = .returned (.slice none 0 0) ∧ w' = w := by
  have hq : ∀ (w : World) (a : Option Addr) (n c n' c' : Nat), (binOp .eql 22 (.slice a n c) (.slice none n' c')).run Ebng.prog w = .ok (.bool a.isNone) w := fun w a n c n' c' => Lib.run_eql_slice_nil w _ _ a n c n' c' Ebng.underlying22
  go_enter Ebng.func8, Ebng.ntmps8
  go_wp2
  go_ret
  exact ⟨rfl, rfl⟩

theorem made_row {w : World} {B g n : Nat} {xs : List Value} (h : w.ownsRow B 5 1 (.slice (some ⟨g, 0, none⟩) n n) n xs) :
    ∃ cur : List Value, w.heap[g]? = some (.cells cur.toArray 5 (0, 0)) ∧ cur.length = n := by
  rcases h.2 with ⟨h', _⟩ | ⟨g', cap', cur, h', _, hg, _, _, hs, _⟩
  · cases h'
  · obtain ⟨rfl, rfl⟩ : g = g' ∧ n = cap' := by simpa using h'
    exact ⟨cur.toList, by simpa using hg, by simpa using hs⟩

theorem splice_all {α : Type} (cur cs : List α) (h : cs.length = cur.length) : splice cur 0 cs = cs := by
  unfold splice
  rw [Nat.zero_add, h, List.drop_length]
  simp

theorem own_of_row {w : World} {g : Nat} {zs : List Int} (hz : zs.length ≤ 1048576) (h : w.heap[g]? = some (.cells (cb zs).toArray 5 (0, 0))) : Own w g (.slice (some ⟨g, 0, none⟩) zs.length zs.length) zs :=
  ⟨by simp [cb], .inr ⟨g, zs.length, _, rfl, Nat.le_refl _, h, Nat.le_refl _, by unfold maxLen; omega, by simp [cb], by simp only [Nat.mul_one]; exact List.take_of_length_le (by simp [cb])⟩⟩

set_option maxHeartbeats 400000 in
theorem clone_some (ad : Addr) (cap : Nat) (zs : List Int) (w : World) (hz : zs.length ≤ 1048576) (hv : View .u8 w (some ad) zs) :
    Calls Ebng.prog 8 #[.slice (some ad) zs.length cap] w fun e w' => ∃ v', e = .returned v' ∧ Own w' w.heap.size v' zs ∧ Below w.heap.size w w' := by
  have hq : ∀ (w : World) (a : Option Addr) (n c n' c' : Nat), (binOp .eql 22 (.slice a n c) (.slice none n' c')).run Ebng.prog w = .ok (.bool a.isNone) w := fun w a n c n' c' => Lib.run_eql_slice_nil w _ _ a n c n' c' Ebng.underlying22
  obtain ⟨i0, hi, hz0, hz1, hz2⟩ := info_parts Ebng.info5
  obtain ⟨n, hn⟩ : ∃ n, n = zs.length := ⟨_, rfl⟩
  have hzn : n ≤ 1048576 := by omega
  obtain ⟨cs, hcs⟩ : ∃ cs, cs = cb zs := ⟨_, rfl⟩
  have hsrc : 0 < cs.length → ∃ a', some ad = some a' ∧ ∀ j v, cs[j]? = some v → w.cell? (a'.add j) = some v := by
    intro h0
    subst hcs
    obtain ⟨b, off, e⟩ := hv.plain (by simpa [cb] using h0)
    refine ⟨ad, rfl, fun j v hj => ?_⟩
    obtain ⟨rfl⟩ : ad = ⟨b, off, none⟩ := by simpa using e
    have hlt : j < zs.length := by
      rcases Nat.lt_or_ge j zs.length with h | h
      · exact h
      · simp [cb, h] at hj
    rw [cb_get zs j hlt] at hj
    rw [WideShapes.add_plain, ← hj]
    exact hv.cell b off rfl j hlt
  rw [← hn]
  have HN : Hid (n = zs.length) := hn
  have HC : Hid (cs = cb zs) := hcs
  have hcl : cs.length = n := by rw [hcs, hn, cb_length]
  have HL : Hid (cs.length = n) := hcl
  clear hn hcs hcl hz hv
  go_enter Ebng.func8, Ebng.ntmps8
  go_wp2_with (first
    | (at_make; refine wpList_make_full _ rfl _ _ 22 rfl w.heap.size 5 i0 (.int .u8 0) 1 Ebng.underlying22 hi hz0 hz1 _ _ _ _ n rfl rfl rfl rfl (by rw [hz2]; omega) (by unfold maxLen; omega) (Nat.le_refl _) ?_; intro w1 hown1 hg1; obtain ⟨cur, hcur, hlen⟩ := made_row hown1; have HH : Hid (w1.heap[w.heap.size]? = some (.cells cur.toArray 5 (0, 0))) := hcur; have HL2 : Hid (cur.length = n) := hlen; have hb1 : Below w.heap.size w w1 := (Below.refl _ _).grown hg1 (Nat.le_refl _) (fun _ e => by cases e); clear hown1 hg1 hcur hlen)
    | (refine wpList_copy_splice rfl (.tmp 9) (.tmp 10) 22 22 rfl 5 Ebng.underlying22 Ebng.size5 _ _ _ _ _ _ rfl rfl w.heap.size 0 cur 5 HH.out cs ?c1 ?c2 ?c3 ?c4 w.heap.size w hb1 (Nat.le_refl _) ?_; rotate_right; intro w2 HG2 hb2)
    | fail)
  case c1 => rw [HL.out]; exact (Nat.min_self n).symm
  case c2 =>
    intro h0 j v hj
    obtain ⟨a', e, hc⟩ := hsrc h0
    obtain ⟨rfl⟩ : ad = a' := by simpa using e
    have h1 := hc j v hj
    rw [hb1.cell (World.block_lt_of_cell? w _ h1)]
    exact h1
  case c3 => rw [HL.out, HL2.out]; omega
  case c4 => rw [HC.out]; exact cb_one zs
  have hrow := HG2.out
  rw [splice_all cur cs (HL.out.trans HL2.out.symm), HC.out] at hrow
  go_ret
  refine ⟨_, rfl, ?_, hb2⟩
  have hN := HN.out
  subst hN
  exact own_of_row hzn hrow

/-- zzClone, whole: a copy in memory of its own (nil of nil). -/
theorem clone_any (ao : Option Addr) (cap : Nat) (zs : List Int) (w : World) (hz : zs.length ≤ 1048576) (hv : View .u8 w ao zs) (hc : ao = none → cap = 0) :
    Calls Ebng.prog 8 #[.slice ao zs.length cap] w fun e w' => ∃ v', e = .returned v' ∧ Own w' w.heap.size v' zs ∧ Below w.heap.size w w' := by
  cases ao with
  | none =>
    obtain rfl := hc rfl
    have h0 := hv.none rfl
    obtain rfl : zs = [] := List.eq_nil_of_length_eq_zero h0
    exact (clone_nil w).mono fun e w' ⟨he, hw⟩ => ⟨_, he, by rw [hw]; exact World.ownsRow_nil _ _ _ _, by rw [hw]; exact Below.refl _ _⟩
  | some ad => exact clone_some ad cap zs w hz hv

/-! ### zzEq (10) -/

set_option maxHeartbeats 400000 in
theorem eq_short (ao bo : Option Addr) (ca cb' : Nat) (n m : Nat) (h : ((n : Int) != (m : Int)) = true) (w : World) :
    Calls Ebng.prog 10 #[.slice ao n ca, .slice bo m cb'] w fun e w' => e = .returned (.bool false) ∧ w' = w := by
  go_enter Ebng.func10, Ebng.ntmps10
  go_wp2
  go_ret
  exact ⟨rfl, rfl⟩

set_option maxHeartbeats 400000 in
theorem eq_empty (ao bo : Option Addr) (ca cb' : Nat) (w : World) :
    Calls Ebng.prog 10 #[.slice ao 0 ca, .slice bo 0 cb'] w fun e w' => e = .returned (.bool true) ∧ w' = w := by
  go_enter Ebng.func10, Ebng.ntmps10
  go_wp2
  refine wp_loop_rounds 1 ?_
  rw [rounds_succ]
  go_wp2
  go_ret
  exact ⟨rfl, rfl⟩

theorem ret_bool {a b : Bool} (h : a = b) : Ending.returned (.bool a) = .returned (.bool b) := by rw [h]

theorem take_same {xs ys : List Int} {k : Nat} (hl : xs.length = ys.length) (hk : k < xs.length) (h : xs.take k = ys.take k) (he : xs.getD k 0 = ys.getD k 0) : xs.take (k + 1) = ys.take (k + 1) := by
  rw [List.take_succ_eq_append_getElem hk, List.take_succ_eq_append_getElem (by omega), h]
  simp [hk, hl ▸ hk] at he
  rw [he]

theorem eq_no {xs ys : List Int} {k : Nat} (he : xs.getD k 0 ≠ ys.getD k 0) : decide (xs = ys) = false := by
  refine decide_eq_false fun h => he ?_
  rw [h]

set_option maxHeartbeats 400000 in
theorem eq_loop (b1 o1 b2 o2 ca cb' n : Nat) (xs ys : List Int) (hx : xs.length = n) (hy : ys.length = n) (hn : n ≤ 1073741824) (w : World)
    (c1 : ∀ j, j < n → w.cell? ⟨b1, o1 + j, none⟩ = some (.int .u8 (xs.getD j 0))) (c2 : ∀ j, j < n → w.cell? ⟨b2, o2 + j, none⟩ = some (.int .u8 (ys.getD j 0))) :
    Calls Ebng.prog 10 #[.slice (some ⟨b1, o1, none⟩) n ca, .slice (some ⟨b2, o2, none⟩) n cb'] w fun e w' => e = .returned (.bool (decide (xs = ys))) ∧ ∃ q, w' = w.drewN q := by
  have HX : Hid (xs.length = n) := hx
  have HY : Hid (ys.length = n) := hy
  clear hx hy
  go_enter Ebng.func10, Ebng.ntmps10
  go_wp2
  go_loopw [5] (fun i wr => ∃ k : Nat, k ≤ n ∧ i = .int .i64 k ∧ Hid (xs.take k = ys.take k) ∧ ∃ q, wr = w.drewN q) (fun i _ => n - (intOf i).toNat)
  case atStart => exact ⟨0, Nat.zero_le _, rfl, show _ = _ by simp, 0, rfl⟩
  case round =>
    obtain ⟨k, hk, rfl, HT, q, rfl⟩ := hrel
    by_cases hlt : k < n
    · have d1 := c1 k hlt
      have d2 := c2 k hlt
      obtain ⟨x, hxe⟩ : ∃ x, x = xs.getD k 0 := ⟨_, rfl⟩
      obtain ⟨y, hye⟩ : ∃ y, y = ys.getD k 0 := ⟨_, rfl⟩
      rw [← hxe] at d1
      rw [← hye] at d2
      have HXE : Hid (x = xs.getD k 0) := hxe
      have HYE : Hid (y = ys.getD k 0) := hye
      clear hxe hye c1 c2
      by_cases hxy : (x != y) = true
      · go_wp2
        go_quiet (fail)
        go_wp2
        go_ret
        exact ⟨ret_bool (eq_no (k := k) (by rw [← HXE.out, ← HYE.out]; simpa using hxy)).symm, q + nq, by simp⟩
      · have hxy' : (x != y) = false := by simpa using hxy
        clear hxy
        go_wp2
        go_quiet (fail)
        go_wp2
        go_roundw
        case rel => exact ⟨k + 1, by omega, by go_num, take_same (HX.out.trans HY.out.symm) (by rw [HX.out]; exact hlt) HT.out (by rw [← HXE.out, ← HYE.out]; simpa using hxy'), _, rfl⟩
        case measure => simp [intOf]; omega
    · go_wp2
      go_ret
      refine ⟨ret_bool (decide_eq_true ?_).symm, q, rfl⟩
      have hT := HT.out
      have hkn : k = n := by omega
      rwa [List.take_of_length_le (by rw [HX.out]; omega), List.take_of_length_le (by rw [HY.out]; omega)] at hT

/-- zzEq, whole. -/
theorem eq_any (ao bo : Option Addr) (ca cb' : Nat) (xs ys : List Int) (w : World) (hx : xs.length ≤ 1073741824) (vx : View .u8 w ao xs) (vy : View .u8 w bo ys) :
    Calls Ebng.prog 10 #[.slice ao xs.length ca, .slice bo ys.length cb'] w fun e w' => e = .returned (.bool (decide (xs = ys))) ∧ ∃ q, w' = w.drewN q := by
  by_cases hl : xs.length = ys.length
  · by_cases h0 : xs.length = 0
    · obtain rfl : xs = [] := List.eq_nil_of_length_eq_zero h0
      obtain rfl : ys = [] := List.eq_nil_of_length_eq_zero (by omega)
      exact (eq_empty ao bo ca cb' w).mono fun e w' ⟨he, hw⟩ => ⟨he, 0, hw⟩
    · obtain ⟨b1, o1, rfl⟩ := vx.plain (by omega)
      obtain ⟨b2, o2, rfl⟩ := vy.plain (by omega)
      have := eq_loop b1 o1 b2 o2 ca cb' xs.length xs ys rfl hl.symm hx w (vx.cell b1 o1 rfl) (fun j hj => vy.cell b2 o2 rfl j (by omega))
      rwa [← hl]
  · have he : decide (xs = ys) = false := decide_eq_false fun h => hl (by rw [h])
    rw [he]
    exact (eq_short ao bo ca cb' xs.length ys.length (by simp; omega) w).mono fun e w' ⟨he, hw⟩ => ⟨he, 0, hw⟩

end Go.Proofs.YoebnwDoor
