/-
  OUR OWN WORK. THE WALK of the law FnWriteSingleByteAgreesWithWrite (4).
-/
import Derived.Test.YoebnwDoorWrite
namespace Go.Proofs.YoebnwDoor
open Go.RowKit

set_option maxHeartbeats 400000 in
theorem lawB_l1 (bo : Option Addr) (n bc : Nat) (po : Option Addr) (m pc : Nat) (w : World) (hn : 1048576 < n) :
    Calls Ebng.prog 4 #[.slice bo n bc, .slice po m pc] w fun e w' => e = .returned (.bool true) ∧ Below w.heap.size w w' := by
  go_enter Ebng.func4, Ebng.ntmps4
  go_wp2
  go_ret
  exact ⟨rfl, Below.refl _ _⟩

set_option maxHeartbeats 400000 in
theorem lawB_l2 (bo : Option Addr) (n bc : Nat) (po : Option Addr) (m pc : Nat) (w : World) (hn : n ≤ 1048576) (hm : 1048576 < m) :
    Calls Ebng.prog 4 #[.slice bo n bc, .slice po m pc] w fun e w' => e = .returned (.bool true) ∧ Below w.heap.size w w' := by
  go_enter Ebng.func4, Ebng.ntmps4
  go_wp2
  go_ret
  exact ⟨rfl, Below.refl _ _⟩

set_option maxHeartbeats 400000 in
theorem lawB_l3 (bo : Option Addr) (n bc : Nat) (po : Option Addr) (m pc : Nat) (w : World) (hn : n ≤ 1048576) (hm : m ≤ 1048576) (hs : 1048576 < n + m) :
    Calls Ebng.prog 4 #[.slice bo n bc, .slice po m pc] w fun e w' => e = .returned (.bool true) ∧ Below w.heap.size w w' := by
  go_enter Ebng.func4, Ebng.ntmps4
  go_wp2
  go_ret
  exact ⟨rfl, Below.refl _ _⟩

theorem bytesB_ok (bo : Option Addr) (n bc : Nat) (po : Option Addr) (m pc : Nat) (w : World) (hs : n + m ≤ 1048576) : Calls Ebng.prog 11 #[.slice bo n bc, .slice po m pc] w fun e w' => e = .returned (.bool true) ∧ w = w' := by
  go_enter Ebng.func11, Ebng.ntmps11
  go_wp2
  go_ret
  exact ⟨rfl, rfl⟩

set_option maxHeartbeats 400000 in
theorem lawB_l4 (bo : Option Addr) (n bc : Nat) (po : Option Addr) (m pc : Nat) (w : World) (hs : n + m ≤ 1048576) (h : 524288 < n ∨ 524288 < m) :
    Calls Ebng.prog 4 #[.slice bo n bc, .slice po m pc] w fun e w' => e = .returned (.bool true) ∧ Below w.heap.size w w' := by
  by_cases h1 : 524288 < n
  · go_enter Ebng.func4, Ebng.ntmps4
    go_wp2_with (go_at_call 11; refine (bytesB_ok _ _ _ _ _ _ _ hs).mono ?_; rintro e w' ⟨rfl, rfl⟩)
    go_ret
    exact ⟨rfl, Below.refl _ _⟩
  · have h2 : 524288 < m := by omega
    clear h
    go_enter Ebng.func4, Ebng.ntmps4
    go_wp2_with (go_at_call 11; refine (bytesB_ok _ _ _ _ _ _ _ hs).mono ?_; rintro e w' ⟨rfl, rfl⟩)
    go_ret
    exact ⟨rfl, Below.refl _ _⟩

theorem Own.below_base {w w' : World} {B B' : Nat} {v : Value} {zs : List Int} (h : Own w B v zs) (hlt : ∀ k, v.ownBlock = some k → k < B') (hb : Below B' w w') : Own w' B v zs := by
  refine ⟨h.1, ?_⟩
  rcases h.2 with hn | ⟨g, cap, cur, rfl, hg, hh, rest⟩
  · exact .inl hn
  · exact .inr ⟨g, cap, cur, rfl, hg, by rw [hb.block g (hlt g rfl)]; exact hh, rest⟩

theorem take_push (bs ps : List Int) (k : Nat) (h : k < ps.length) : (bs ++ ps.take k) ++ [ps.getD k 0] = bs ++ ps.take (k + 1) := by
  rw [List.take_succ_eq_append_getElem h]
  simp [h]

set_option maxHeartbeats 1000000 in
theorem lawB_main (bo : Option Addr) (bc : Nat) (bs : List Int) (po : Option Addr) (pc : Nat) (ps : List Int) (w : World) (hb : bs.length ≤ 524288) (hp : ps.length ≤ 524288)
    (vb : View .u8 w bo bs) (hbc : bo = none → bc = 0) (vp : View .u8 w po ps) (hpc : po = none → pc = 0) (M : Int) (hM : 1073741824 < M) (hg : w.cell? ⟨0, 0, none⟩ = some (.int .i64 M)) :
    Calls Ebng.prog 4 #[.slice bo bs.length bc, .slice po ps.length pc] w fun e w' => e = .returned (.bool true) ∧ Below w.heap.size w w' := by
  have hgs : 0 < w.heap.size := World.block_lt_of_cell? w _ hg
  have hcl := clone_any bo bc bs w (by omega) vb hbc
  have HPC : Hid (po = none → pc = 0) := hpc
  clear hbc vb hpc
  go_enter Ebng.func4, Ebng.ntmps4
  go_wp2_with (first
    | (go_at_call 11; refine (bytesB_ok _ _ _ _ _ _ _ (by omega)).mono ?_; rintro e w' ⟨rfl, rfl⟩)
    | fail)
  refine hcl.mono ?_
  rintro e w1 ⟨v1, rfl, ho1, hb1⟩
  clear hcl
  obtain ⟨ao1, cap1, hv1, hview1, hcap1⟩ := ho1.shape
  subst hv1
  have HO1 : Hid (Own w1 w.heap.size (.slice ao1 bs.length cap1) bs) := ho1
  have HC1 : Hid (ao1 = none → cap1 = 0) := hcap1
  have hcl := clone_any po pc ps w1 (by omega) (vp.below hb1) HPC.out
  clear ho1 hview1 hcap1 vp
  go_wp2_with fail
  refine hcl.mono ?_
  rintro e w2 ⟨v2, rfl, ho2, hb2⟩
  clear hcl
  obtain ⟨ao2, cap2, hv2, hview2, hcap2⟩ := ho2.shape
  subst hv2
  have HO2 : Hid (Own w2 w1.heap.size (.slice ao2 ps.length cap2) ps) := ho2
  have HC2 : Hid (ao2 = none → cap2 = 0) := hcap2
  have hs1 := hb1.size
  have hs2 := hb2.size
  have HO1' : Hid (Own w2 w.heap.size (.slice ao1 bs.length cap1) bs) := HO1.out.below hb2
  have hview1 := HO1'.out.shape
  obtain ⟨_, _, e1, hview1, _⟩ := hview1
  simp only [Value.slice.injEq, true_and] at e1
  obtain ⟨rfl, rfl⟩ := e1
  have hcl := clone_any ao1 cap1 bs w2 (by omega) hview1 HC1.out
  clear ho2 hcap2 hview1
  go_wp2_with fail
  refine hcl.mono ?_
  rintro e w3 ⟨v3, rfl, ho3, hb3⟩
  clear hcl
  obtain ⟨ao3, cap3, hv3, _, _⟩ := ho3.shape
  subst hv3
  have HO3 : Hid (Own w3 w2.heap.size (.slice ao3 bs.length cap3) bs) := ho3
  clear ho3
  go_wp2
  go_loopw [5, 6] (fun v i wr => ∃ (k : Nat) (ao : Option Addr) (cp : Nat), k ≤ ps.length ∧ i = .int .i64 k ∧ v = .slice ao (bs.length + k) cp ∧ Hid (Own wr w2.heap.size (.slice ao (bs.length + k) cp) (bs ++ ps.take k)) ∧ Below w2.heap.size w2 wr) (fun _ i _ => ps.length - (intOf i).toNat)
  case atStart => exact ⟨0, ao3, cap3, Nat.zero_le _, rfl, rfl, by simpa using HO3, hb3⟩
  case round =>
    obtain ⟨k, ao, cp, hk, rfl, rfl, HOr, hbr⟩ := hrel
    have hsr := hbr.size
    by_cases hlt : k < ps.length
    · obtain ⟨g2, o2, he2⟩ := hview2.plain (by omega)
      subst he2
      have hc2 := (hview2.below hbr).cell g2 o2 rfl k hlt
      obtain ⟨x, hx⟩ : ∃ x, x = ps.getD k 0 := ⟨_, rfl⟩
      rw [← hx] at hc2
      have hgr : wr.cell? ⟨0, 0, none⟩ = some (.int .i64 M) := by
        rw [hbr.cell (show 0 < w2.heap.size by omega), hb2.cell (show 0 < w1.heap.size by omega), hb1.cell hgs]
        exact hg
      have hby := byte_any w2.heap.size _ (bs ++ ps.take k) x wr HOr.out (by simp; omega) hsr M hM hgr
      rw [hx, take_push bs ps k hlt, ← hx] at hby
      have HX : Hid (x = ps.getD k 0) := hx
      have hoB := World.ownsRow.lt HOr.out
      have HLT : Hid (∀ j, (Value.slice ao (bs.length + k) cp).ownBlock = some j → w2.heap.size ≤ j) := fun j hj => (hoB j hj).1
      clear hx hgr hoB
      go_wp2_with fail
      refine hby.mono ?_
      rintro e w4 ⟨v4, rfl, ho4, hg4⟩
      clear hby
      obtain ⟨ao4, cap4, hv4, _, _⟩ := ho4.shape
      rw [show (bs ++ ps.take (k + 1)).length = bs.length + (k + 1) from by simp; omega] at hv4
      subst hv4
      have HO4 : Hid (Own w4 w2.heap.size (.slice ao4 (bs.length + (k + 1)) cap4) (bs ++ ps.take (k + 1))) := ho4
      have hb4 : Below w2.heap.size w2 w4 := hbr.grown hg4 hsr HLT.out
      clear ho4 hg4
      go_wp2
      go_roundw
      case rel => exact ⟨k + 1, ao4, cap4, by omega, by go_num, rfl, HO4, hb4⟩
      case measure => simp [intOf]; omega
    · have hkn : k = ps.length := by omega
      subst hkn
      have HX : Hid (Own wr w2.heap.size (.slice ao (bs.length + ps.length) cp) (bs ++ ps)) := by simpa using HOr
      clear HOr
      obtain ⟨_, _, e1, hview1, _⟩ := (HO1'.out.below_base (fun j hj => by have := (World.ownsRow.lt HO1'.out j hj).2; exact this) hbr).shape
      simp only [Value.slice.injEq, true_and] at e1
      obtain ⟨rfl, rfl⟩ := e1
      have hcl := clone_any ao1 cap1 bs wr (by omega) hview1 HC1.out
      clear hview1
      go_wp2_with fail
      refine hcl.mono ?_
      rintro e w5 ⟨v5, rfl, ho5, hb5⟩
      clear hcl
      have hs5 := hb5.size
      have hg5 : w5.cell? ⟨0, 0, none⟩ = some (.int .i64 M) := by
        rw [hb5.cell (show 0 < wr.heap.size by omega), hbr.cell (show 0 < w2.heap.size by omega), hb2.cell (show 0 < w1.heap.size by omega), hb1.cell hgs]
        exact hg
      have hwr := write_any wr.heap.size v5 bs ao2 cap2 ps w5 ho5 (by omega) (by omega) hs5 ((hview2.below hbr).below hb5) HC2.out M hM hg5
      have hoB := World.ownsRow.lt ho5
      have HB5 : Hid (∀ j, v5.ownBlock = some j → wr.heap.size ≤ j) := fun j hj => (hoB j hj).1
      clear hg5 hoB ho5
      go_wp2_with fail
      refine hwr.mono ?_
      rintro e w6 ⟨v6, rfl, ho6, hg6⟩
      clear hwr
      have hx6 : Own w6 w2.heap.size (.slice ao (bs.length + ps.length) cp) (bs ++ ps) := (HX.out.below hb5).apart hg6 (fun j hj e => by
        have h1 := (World.ownsRow.lt HX.out j hj).2
        have h2 := HB5.out j e
        omega)
      have hB6 : Below w.heap.size w w6 := ((hb1.trans (hb2.mono hs1)).trans ((hbr.mono (by omega)).trans (hb5.mono (by omega)))).grown hg6 (by omega) (fun j hj => by have := HB5.out j hj; omega)
      obtain ⟨ao6, cap6, hv6, hview6, _⟩ := ho6.shape
      obtain ⟨_, _, e7, hview7, _⟩ := hx6.shape
      rw [show (bs ++ ps).length = bs.length + ps.length from by simp] at hv6 e7
      simp only [Value.slice.injEq, true_and] at e7
      obtain ⟨rfl, rfl⟩ := e7
      subst hv6
      have heq := eq_any ao ao6 cp cap6 (bs ++ ps) (bs ++ ps) w6 (by simp; omega) hview7 hview6
      rw [decide_eq_true rfl, show (bs ++ ps).length = bs.length + ps.length from by simp] at heq
      clear ho6 hx6 hg6 hview6 hview7 hview2
      go_wp2_with fail
      refine heq.mono ?_
      rintro e w7 ⟨rfl, q, rfl⟩
      clear heq
      go_wp2
      go_ret
      exact ⟨rfl, below_drewN hB6 q⟩

/-- The law FnWriteSingleByteAgreesWithWrite, at every input. -/
theorem lawB_any (bo : Option Addr) (bc : Nat) (bs : List Int) (po : Option Addr) (pc : Nat) (ps : List Int) (w : World)
    (vb : View .u8 w bo bs) (hbc : bo = none → bc = 0) (vp : View .u8 w po ps) (hpc : po = none → pc = 0) (M : Int) (hM : 1073741824 < M) (hg : w.cell? ⟨0, 0, none⟩ = some (.int .i64 M)) :
    Calls Ebng.prog 4 #[.slice bo bs.length bc, .slice po ps.length pc] w fun e w' => e = .returned (.bool true) ∧ Below w.heap.size w w' := by
  by_cases h1 : bs.length ≤ 1048576
  · by_cases h2 : ps.length ≤ 1048576
    · by_cases h3 : bs.length + ps.length ≤ 1048576
      · by_cases h4 : bs.length ≤ 524288 ∧ ps.length ≤ 524288
        · exact lawB_main bo bc bs po pc ps w h4.1 h4.2 vb hbc vp hpc M hM hg
        · exact lawB_l4 bo _ bc po _ pc w h3 (by omega)
      · exact lawB_l3 bo _ bc po _ pc w h1 h2 (by omega)
    · exact lawB_l2 bo _ bc po _ pc w h1 (by omega)
  · exact lawB_l1 bo _ bc po _ pc w (by omega)

end Go.Proofs.YoebnwDoor
