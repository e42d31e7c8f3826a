/-
  OUR OWN WORK. THE WALK of ZZfmtbufWriteRune (14; the method 20 walked in place), at a byte slice of the call's own.
-/
import Derived.Test.YoebnwDoorRune
namespace Go.Proofs.YoebnwDoor
open Go.RowKit

theorem hide {p : Prop} (h : p) : Hid p := h

/-! ### a row that is written from place 'o' on -/
theorem row_setCells (g : Nat) (t : TypeId) : ∀ (vs : List Value) (o : Nat) (w : World) (cur : Array Value), w.heap[g]? = some (.cells cur t (0, 0)) → o + vs.length ≤ cur.size →
    ∃ cur' : Array Value, (w.setCells g o vs).heap[g]? = some (.cells cur' t (0, 0)) ∧ cur'.size = cur.size ∧ cur'.toList.take (o + vs.length) = cur.toList.take o ++ vs
  | [], o, w, cur, h, _ => ⟨cur, h, rfl, by simp⟩
  | v :: vs, o, w, cur, h, hl => by
    have h1 := heap_setCell_same w g o cur t v h
    obtain ⟨cur', e1, e2, e3⟩ := row_setCells g t vs (o + 1) (w.setCell ⟨g, o, none⟩ v) (cur.setIfInBounds o v) h1 (by simp at hl ⊢; omega)
    refine ⟨cur', e1, by simpa using e2, ?_⟩
    simp only [List.length_cons] at hl ⊢
    rw [show o + (vs.length + 1) = o + 1 + vs.length from by omega, e3, Array.toList_setIfInBounds]
    have ho : o < cur.toList.length := by simp; omega
    rw [List.take_succ_eq_append_getElem (by simpa using ho), List.take_set_of_le (Nat.le_refl o)]
    simp

theorem block_setCells (g : Nat) : ∀ (vs : List Value) (o : Nat) (w : World) (k : Nat), k ≠ g → (w.setCells g o vs).heap[k]? = w.heap[k]?
  | [], _, _, _, _ => rfl
  | v :: vs, o, w, k, h => (block_setCells g vs (o + 1) (w.setCell ⟨g, o, none⟩ v) k h).trans (Below.heap_setCell w ⟨g, o, none⟩ v k h)

theorem below_setCells_own {B g : Nat} (hg : B ≤ g) : ∀ (vs : List Value) (o : Nat) (w0 w : World), Below B w0 w → Below B w0 (w.setCells g o vs)
  | [], _, _, _, h => h
  | v :: vs, o, w0, w, h => below_setCells_own hg vs (o + 1) w0 (w.setCell ⟨g, o, none⟩ v) (h.setCell (p := ⟨g, o, none⟩) hg v)

def lenV : Value → Nat
  | .slice _ n _ => n
  | _ => 0

/-- 'k' zero bytes. -/
def zc (k : Nat) : List Value := List.replicate k (.int .u8 0)
theorem zc_length (k : Nat) : (zc k).length = k := by simp [zc]
theorem zc_succ (xs : List Value) (k : Nat) : xs ++ (zc k ++ [.int .u8 0]) = xs ++ zc (k + 1) := by simp [zc, List.replicate_succ']

set_option maxHeartbeats 400000 in
theorem rune_small (B : Nat) (ao : Option Addr) (n cap : Nat) (xs : List Value) (r : Int) (hr : r < 128) (w : World) (hown : w.ownsRow B 5 1 (.slice ao n cap) n xs) (hn : n ≤ 1073741000) (hB : B ≤ w.heap.size)
    (M : Int) (hM : 1073741824 < M) (hg : w.cell? ⟨0, 0, none⟩ = some (.int .i64 M)) :
    Calls Ebng.prog 14 #[.slice ao n cap, .int .i32 r] w fun e w' => ∃ v', e = .returned v' ∧ w'.ownsRow B 5 1 v' (n + 1) (xs ++ [.int .u8 (r % 256)]) ∧ Below B w w' := by
  obtain ⟨i0, hi, hz0, hz1, hz2⟩ := info_parts Ebng.info5
  have HO : Hid (w.ownsRow B 5 1 (.slice ao n cap) n xs) := hown
  have hgs : 0 < w.heap.size := World.block_lt_of_cell? w _ hg
  have hrl := rl_bd r
  clear hown
  go_enter Ebng.func14, Ebng.ntmps14
  go_wp2
  go_quiet ((go_at_call 21; exact Calls.quiet_of_same (runeLen_any _ _)))
  go_wp2_with (first
    | (at_builtin; refine wpList_append_own _ rfl _ _ 35 rfl B 5 i0 (.int .u8 0) 1 1 Ebng.underlying35 hi hz0 hz1 hz2 rfl (by decide) _ n xs rfl ((HO.out.alloc _).alloc _) ⟨w.heap.size + 1, 0, none⟩ 1 1 [.int .u8 (r % 256)] rfl rfl ?c1 ?c2 ?c3 ?c4 ?c5 ?_)
    | fail)
  case c1 =>
    intro j u hj
    match j, hj with
    | 0, hj => simp at hj; subst hj; simp [Addr.add, go_sem]
  case c2 => intro u hu; simp at hu; subst hu; rfl
  case c3 => unfold maxLen; omega
  case c4 => omega
  case c5 => simp; omega
  intro v' w1 hown1 hg1 _
  have hbox := box_kept HO.out (Nat.le_refl _) (box_two w _ _ nq) hg1
  have hc := cell_of_one hbox
  have hf := free_of_one hbox
  have HNB : Hid (v'.ownBlock ≠ some w.heap.size) := own_not_box hown1 hbox
  have HG : Hid (w.grownBy w1 (Value.slice ao n cap).ownBlock) := grown_trans_new (grown_two w _ _ nq _) hg1
  have HO1 : Hid (w1.ownsRow B 5 1 v' (n + 1) (xs ++ [.int .u8 (r % 256)])) := hown1
  obtain ⟨ao', cap', hv⟩ := own_slice hown1
  clear hg1 hown1 hbox
  subst hv
  go_wp2
  (try simp only [Exit.inBlock, Exit.then])
  refine bodyPost_ret (results_none rfl _ _ _) rfl ?_
  go_wp2
  go_ret
  exact ⟨_, rfl, ownsRow_setCell_other HO1.out HNB.out _, ((Below.refl _ _).grown HG.out hB (fun k hk => (HO.out.lt k hk).1)).setCell (p := ⟨w.heap.size, 0, none⟩) hB _⟩

/-- What holds of the loop that makes room: 'k' zero bytes have been laid behind; the box is as it was. -/
structure Room (B : Nat) (w wr : World) (x : Value) (n k : Nat) (xs : List Value) (v : Value) : Prop where
  own : wr.ownsRow B 5 1 v (n + k) (xs ++ zc k)
  box : wr.heap[w.heap.size]? = some (.cells #[x] 35 (0, 0))
  below : Below B w wr

theorem Room.next {B : Nat} {w wr w1 : World} {x v v' : Value} {n k : Nat} {xs : List Value} (h : Room B w wr x n k xs v) (hB : B ≤ w.heap.size) (o : Obj) (hown1 : w1.ownsRow B 5 1 v' (n + k + 1) (xs ++ (zc k ++ [.int .u8 0])))
    (hg1 : (wr.alloc o).grownBy w1 v.ownBlock) : Room B w w1 x n (k + 1) xs v' := by
  have hs := h.below.size
  refine ⟨by rw [← zc_succ]; exact hown1, ?_, (h.below.alloc (by omega) o).grown hg1 (by simp; omega) (fun j hj => (h.own.lt j hj).1)⟩
  rw [hg1.block w.heap.size (by have := lt_of_block h.box; simp; omega) (fun e => own_not_box h.own h.box e.symm), Below.heap_alloc wr o _ (lt_of_block h.box)]
  exact h.box

theorem own_cap {w : World} {B : Nat} {a : Option Addr} {m c : Nat} {xs : List Value} (h : w.ownsRow B 5 1 (.slice a m c) m xs) : m ≤ c := by
  rcases h.2 with ⟨h', rfl⟩ | ⟨g, cap, cur, h', _, _, h1, _⟩
  · omega
  · simp only [Value.slice.injEq] at h'; omega

theorem own_row {w : World} {B : Nat} {a : Option Addr} {m c : Nat} {xs : List Value} (h : w.ownsRow B 5 1 (.slice a m c) m xs) (hc : 0 < c) :
    ∃ (g : Nat) (cur : Array Value), a = some ⟨g, 0, none⟩ ∧ B ≤ g ∧ w.heap[g]? = some (.cells cur 5 (0, 0)) ∧ cur.size = c ∧ c ≤ maxLen ∧ cur.toList.take m = xs := by
  rcases h.2 with ⟨h', rfl⟩ | ⟨g, cap, cur, h', h1, h2, _, h4, h5, h6⟩
  · simp only [Value.slice.injEq] at h'; omega
  · simp only [Value.slice.injEq, true_and] at h'
    obtain ⟨rfl, rfl⟩ := h'
    exact ⟨g, cur, rfl, h1, h2, by simpa using h5, h4, by simpa using h6⟩

/-- What stands behind EncodeRune and the store into the box. -/
theorem rune_end {B : Nat} {w wr : World} {x : Value} {n k g c : Nat} {xs : List Value} {cur : Array Value} {cs : List Value} (h : Room B w wr x n k xs (.slice (some ⟨g, 0, none⟩) (n + k) c)) (hx : xs.length = n) (hB : B ≤ w.heap.size) (hg : B ≤ g)
    (hrow : wr.heap[g]? = some (.cells cur 5 (0, 0))) (hcs : cur.size = c) (hcm : c ≤ maxLen) (ht : cur.toList.take (n + k) = xs ++ zc k) (hl : n + cs.length ≤ c) :
    ((wr.setCells g n cs).setCell ⟨w.heap.size, 0, none⟩ (.slice (some ⟨g, 0, none⟩) (n + cs.length) c)).ownsRow B 5 1 (.slice (some ⟨g, 0, none⟩) (n + cs.length) c) (n + cs.length) (xs ++ cs) ∧
    Below B w ((wr.setCells g n cs).setCell ⟨w.heap.size, 0, none⟩ (.slice (some ⟨g, 0, none⟩) (n + cs.length) c)) ∧
    (wr.setCells g n cs).heap[w.heap.size]? = some (.cells #[x] 35 (0, 0)) := by
  have hne : w.heap.size ≠ g := by
    intro e
    have := h.box
    rw [e, hrow] at this
    simp at this
  obtain ⟨cur', e1, e2, e3⟩ := row_setCells g 5 cs n wr cur hrow (by omega)
  have htk : cur.toList.take n = xs := by
    have h1 : (cur.toList.take (n + k)).take n = xs := by rw [ht, ← hx]; exact List.take_left
    rwa [List.take_take, Nat.min_eq_left (by omega)] at h1
  rw [htk] at e3
  refine ⟨ownsRow_setCell_other ?_ ?_ _, (below_setCells_own hg cs n w wr h.below).setCell (p := ⟨w.heap.size, 0, none⟩) hB _, (block_setCells g cs n wr _ hne).trans h.box⟩
  · exact ⟨by simp; omega, .inr ⟨g, c, cur', rfl, hg, e1, hl, hcm, by omega, by simpa using e3⟩⟩
  · simp only [Value.ownBlock, ne_eq, Option.some.injEq]
    omega

set_option maxHeartbeats 1000000 in
theorem rune_core (B : Nat) (ao : Option Addr) (n cap : Nat) (xs : List Value) (r : Int) (hr : 128 ≤ r) (cs : List Value) (hcl4 : cs.length ≤ 4)
    (henc0 : ∀ (b off cap : Nat) (w : World), (∀ j, j < 4 → (w.cell? ⟨b, off + j, none⟩).isSome = true) → (∀ j, j < 4 → w.frozen? ⟨b, off + j, none⟩ = false) →
      Calls Ebng.prog 22 #[.slice (some ⟨b, off, none⟩) 4 cap, .int .i32 r] w fun e w' => e = .returned (.int .i64 cs.length) ∧ w' = w.setCells b off cs) (w : World) (hown : w.ownsRow B 5 1 (.slice ao n cap) n xs) (hn : n ≤ 1073741000) (hB : B ≤ w.heap.size)
    (M : Int) (hM : 1073741824 < M) (hg : w.cell? ⟨0, 0, none⟩ = some (.int .i64 M)) :
    Calls Ebng.prog 14 #[.slice ao n cap, .int .i32 r] w fun e w' => ∃ v', e = .returned v' ∧ w'.ownsRow B 5 1 v' (n + cs.length) (xs ++ cs) ∧ Below B w w' := by
  obtain ⟨i0, hi, hz0, hz1, hz2⟩ := info_parts Ebng.info5
  have HO : Hid (w.ownsRow B 5 1 (.slice ao n cap) n xs) := hown
  have hgs : 0 < w.heap.size := World.block_lt_of_cell? w _ hg
  have hrl := rl_bd r
  have HENC := hide henc0
  clear hown henc0
  go_enter Ebng.func14, Ebng.ntmps14
  go_wp2
  go_quiet ((go_at_call 21; exact Calls.quiet_of_same (runeLen_any _ _)))
  go_wp2
  go_loopw [4] (fun v wr => ∃ (k : Nat) (a : Option Addr) (c : Nat), v = .slice a (n + k) c ∧ Hid (Room B w wr (.slice ao n cap) n k xs (.slice a (n + k) c))) (fun v _ => n + 4 - lenV v)
  case atStart =>
    refine ⟨0, ao, cap, rfl, ⟨?_, ?_, below_drewN ((Below.refl _ _).alloc hB _) nq⟩⟩
    · show (w.alloc _).ownsRow B 5 1 (.slice ao n cap) n (xs ++ zc 0)
      simpa [zc] using HO.out.alloc (.cells #[.slice ao n cap] 35)
    · exact heap_alloc_new w _
  case round =>
    obtain ⟨k, a, c, rfl, HR1⟩ := hrel
    have hkc := own_cap HR1.out.own
    by_cases hc : c < n + 4
    · have hbs := HR1.out.below.size
      go_wp2_with (first
        | (at_builtin; refine wpList_append_own _ rfl _ _ 35 rfl B 5 i0 (.int .u8 0) 1 1 Ebng.underlying35 hi hz0 hz1 hz2 rfl (by decide) _ (n + k) (xs ++ zc k) rfl (HR1.out.own.alloc _) ⟨wr.heap.size, 0, none⟩ 1 1 [.int .u8 0] rfl rfl ?d1 ?d2 ?d3 ?d4 ?d5 ?_)
        | fail)
      case d1 =>
        intro j u hj
        match j, hj with
        | 0, hj => simp at hj; subst hj; simp [Addr.add, go_sem]
      case d2 => intro u hu; simp at hu; subst hu; rfl
      case d3 => unfold maxLen; omega
      case d4 => omega
      case d5 => simp; omega
      intro v' w1 hown1 hg1 _
      have hRoom := HR1.out.next hB _ hown1 hg1
      obtain ⟨a', c', hv⟩ := own_slice hown1
      subst hv
      have HR2 : Hid (Room B w w1 (.slice ao n cap) n (k + 1) xs (.slice a' (n + (k + 1)) c')) := hRoom
      clear hRoom hown1 hg1 HR1
      go_wp2
      go_roundw
      case rel => exact ⟨k + 1, a', c', rfl, HR2⟩
      case measure => simp [lenV]; omega
    · obtain ⟨g, cur, ha, hBg, hrow, hcs, hcm, htk⟩ := own_row HR1.out.own (by omega)
      subst ha
      have hcsz : ∀ j, j < c → (wr.cell? ⟨g, j, none⟩).isSome = true := fun j hj => by
        rw [cell_of_row wr g j cur 5 (0, 0) hrow]
        simp; omega
      have henc := HENC.out g n (c - n) wr (fun j hj => hcsz _ (by omega)) (fun j _ => frozen_of_row wr g _ cur 5 hrow)
      have hx : xs.length = n := by simpa using HO.out.1
      obtain ⟨E1, E2, E3⟩ := rune_end (cs := cs) HR1.out hx hB hBg hrow hcs hcm htk (by omega)
      have hc3 := cell_of_one E3
      have hf3 := free_of_one E3
      have HE1 := hide E1
      have HE2 := hide E2
      clear hrow htk hcs hcsz E1 E2 E3 HR1 hx
      go_wp2_with fail
      refine henc.mono ?_
      rintro e w2 ⟨rfl, rfl⟩
      clear henc
      go_wp2
      go_end0
      go_wp2
      go_ret
      exact ⟨_, rfl, HE1.out, HE2.out⟩

/-- ZZfmtbufWriteRune, whole: the bytes of 'enc r' behind what was there. -/
theorem rune_any (B : Nat) (v : Value) (zs : List Int) (r : Int) (hr : r ≤ 2147483647) (w : World) (hown : Own w B v zs) (hn : zs.length ≤ 1073741000) (hB : B ≤ w.heap.size) (M : Int) (hM : 1073741824 < M) (hg : w.cell? ⟨0, 0, none⟩ = some (.int .i64 M)) :
    Calls Ebng.prog 14 #[v, .int .i32 r] w fun e w' => ∃ v', e = .returned v' ∧ Own w' B v' (zs ++ enc r) ∧ Below B w w' := by
  obtain ⟨ao, cap, rfl⟩ := own_slice hown
  by_cases h : r < 128
  · refine (rune_small B ao zs.length cap (cb zs) r h w hown hn hB M hM hg).mono ?_
    rintro e w' ⟨v', he, ho, hb⟩
    exact ⟨v', he, by rw [enc_one h]; simpa [Own, cb] using ho, hb⟩
  · have hl := enc_length r
    have henc := fun b off cap w hc hf => encode_any b off cap r (by omega) hr w hc hf
    rw [← cb_length (enc r)] at henc hl
    refine (rune_core B ao zs.length cap (cb zs) r (by omega) (cb (enc r)) hl.2 henc w hown hn hB M hM hg).mono ?_
    rintro e w' ⟨v', he, ho, hb⟩
    refine ⟨v', he, ?_, hb⟩
    rw [← cb_append] at ho
    simpa [Own, cb_length] using ho

end Go.Proofs.YoebnwDoor
