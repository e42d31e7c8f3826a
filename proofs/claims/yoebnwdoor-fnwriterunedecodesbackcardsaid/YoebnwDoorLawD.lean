/-
  OUR OWN WORK. THE WALK of the law FnWriteRuneDecodesBack (6).
-/
import Derived.Test.YoebnwDoorWriteRune
import Derived.Test.YoebnwDoorDecAll
namespace Go.Proofs.YoebnwDoor
open Go.RowKit

set_option maxHeartbeats 400000 in
theorem lawD_l1 (bo : Option Addr) (n bc : Nat) (po : Option Addr) (m pc : Nat) (w : World) (hn : 1048576 < n) :
    Calls Ebng.prog 6 #[.slice bo n bc, .slice po m pc] w fun e w' => e = .returned (.bool true) ∧ Below w.heap.size w w' := by
  go_enter Ebng.func6, Ebng.ntmps6
  go_wp2
  go_ret
  exact ⟨rfl, Below.refl _ _⟩

set_option maxHeartbeats 400000 in
theorem lawD_l2 (bo : Option Addr) (n bc : Nat) (po : Option Addr) (m pc : Nat) (w : World) (hn : n ≤ 1048576) (hm : 1048576 < m) :
    Calls Ebng.prog 6 #[.slice bo n bc, .slice po m pc] w fun e w' => e = .returned (.bool true) ∧ Below w.heap.size w w' := by
  go_enter Ebng.func6, Ebng.ntmps6
  go_wp2
  go_ret
  exact ⟨rfl, Below.refl _ _⟩

set_option maxHeartbeats 400000 in
theorem lawD_l3 (bo : Option Addr) (n bc : Nat) (po : Option Addr) (m pc : Nat) (w : World) (hn : n ≤ 1048576) (hm : m ≤ 1048576) (hs : 1048576 < n + m) :
    Calls Ebng.prog 6 #[.slice bo n bc, .slice po m pc] w fun e w' => e = .returned (.bool true) ∧ Below w.heap.size w w' := by
  go_enter Ebng.func6, Ebng.ntmps6
  go_wp2
  go_ret
  exact ⟨rfl, Below.refl _ _⟩

theorem bytesD_ok (bo : Option Addr) (n bc : Nat) (po : Option Addr) (m pc : Nat) (w : World) (hs : n + m ≤ 1048576) : Calls Ebng.prog 16 #[.slice bo n bc, .slice po m pc] w fun e w' => e = .returned (.bool true) ∧ w = w' := by
  go_enter Ebng.func16, Ebng.ntmps16
  go_wp2
  go_ret
  exact ⟨rfl, rfl⟩

set_option maxHeartbeats 400000 in
theorem lawD_l4 (bo : Option Addr) (n bc : Nat) (po : Option Addr) (m pc : Nat) (w : World) (hs : n + m ≤ 1048576) (h : 524288 < n ∨ 65536 < m) :
    Calls Ebng.prog 6 #[.slice bo n bc, .slice po m pc] w fun e w' => e = .returned (.bool true) ∧ Below w.heap.size w w' := by
  by_cases h1 : 524288 < n
  · go_enter Ebng.func6, Ebng.ntmps6
    go_wp2_with (go_at_call 16; refine (bytesD_ok _ _ _ _ _ _ _ hs).mono ?_; rintro e w' ⟨rfl, rfl⟩)
    go_ret
    exact ⟨rfl, Below.refl _ _⟩
  · have h2 : 65536 < m := by omega
    clear h
    go_enter Ebng.func6, Ebng.ntmps6
    go_wp2_with (go_at_call 16; refine (bytesD_ok _ _ _ _ _ _ _ hs).mono ?_; rintro e w' ⟨rfl, rfl⟩)
    go_ret
    exact ⟨rfl, Below.refl _ _⟩

theorem part_at (A T E R : List Int) {j : Nat} (hj : j < E.length) : (A ++ (T ++ (E ++ R))).getD (A.length + T.length + j) 0 = E.getD j 0 := by
  rw [← List.append_assoc, show A.length + T.length + j = (A ++ T).length + j from by simp]
  simp only [List.getD_eq_getElem?_getD]
  rw [List.getElem?_append_right (by omega), List.getElem?_append_left (by omega)]
  simp

set_option maxHeartbeats 2000000 in
theorem lawD_main (bo : Option Addr) (bc : Nat) (bs : List Int) (ro : Option Addr) (rc : Nat) (rs : List Int) (w : World) (hb : bs.length ≤ 524288) (hp : rs.length ≤ 65536)
    (vb : View .u8 w bo bs) (hbc : bo = none → bc = 0) (vr : View .i32 w ro rs) (hrs : ∀ x ∈ rs, x ≤ 2147483647) (M : Int) (hM : 1073741824 < M) (hg : w.cell? ⟨0, 0, none⟩ = some (.int .i64 M)) :
    Calls Ebng.prog 6 #[.slice bo bs.length bc, .slice ro rs.length rc] w fun e w' => e = .returned (.bool true) ∧ Below w.heap.size w w' := by
  have hgs : 0 < w.heap.size := World.block_lt_of_cell? w _ hg
  have HCL := hide (clone_any bo bc bs w (by omega) vb hbc)
  have HRS := hide hrs
  have HBS := hide vb
  clear hbc vb hrs
  go_enter Ebng.func6, Ebng.ntmps6
  go_wp2_with (first
    | (go_at_call 16; refine (bytesD_ok _ _ _ _ _ _ _ (by omega)).mono ?_; rintro e w' ⟨rfl, rfl⟩)
    | fail)
  go_loop [5] (fun i => ∃ k : Nat, k ≤ rs.length ∧ i = .int .i64 k ∧ Hid (∀ j, j < k → 0 ≤ rs.getD j 0)) (fun i => rs.length - (intOf i).toNat)
  case atStart => exact ⟨0, Nat.zero_le _, rfl, fun j hj => by omega⟩
  case round =>
    obtain ⟨k, hk, rfl, HN⟩ := hrel
    by_cases hlt : k < rs.length
    · obtain ⟨g2, o2, he2⟩ := vr.plain (by omega)
      subst he2
      have hc2 := vr.cell g2 o2 rfl k hlt
      obtain ⟨x, hx⟩ : ∃ x, x = rs.getD k 0 := ⟨_, rfl⟩
      rw [← hx] at hc2
      have HX : Hid (x = rs.getD k 0) := hx
      clear hx
      by_cases hneg : x < 0
      · go_wp2
        go_ret
        exact ⟨rfl, Below.refl _ _⟩
      · go_wp2
        go_round
        case rel =>
          refine ⟨k + 1, by omega, by go_num, fun j hj => ?_⟩
          by_cases hjk : j < k
          · exact HN.out j hjk
          · obtain rfl : j = k := by omega
            rw [← HX.out]; omega
        case measure => simp [intOf]; omega
    · obtain rfl : k = rs.length := by omega
      clear hk hlt
      go_wp2_with fail
      refine HCL.out.mono ?_
      rintro e w1 ⟨v1, rfl, ho1, hb1⟩
      clear HCL HBS
      obtain ⟨ao1, cap1, hv1, hview1, hcap1⟩ := ho1.shape
      subst hv1
      have hcl1 := clone_any ao1 cap1 bs w1 (by omega) hview1 hcap1
      have HO1 := hide ho1
      clear ho1 hview1 hcap1
      go_wp2_with fail
      refine hcl1.mono ?_
      rintro e w2 ⟨v2, rfl, ho2, hb2⟩
      clear hcl1
      have hs1 := hb1.size
      have hs2 := hb2.size
      have HO1' := hide (HO1.out.below hb2)
      obtain ⟨ao2, cap2, hv2, _, _⟩ := ho2.shape
      subst hv2
      have HO2 := hide ho2
      have HL1 : Hid (∀ j, (Value.slice ao1 bs.length cap1).ownBlock = some j → j < w1.heap.size) := fun j hj => (World.ownsRow.lt HO1.out j hj).2
      have hg2 : w2.cell? ⟨0, 0, none⟩ = some (.int .i64 M) := by
        rw [hb2.cell (show 0 < w1.heap.size by omega), hb1.cell hgs]
        exact hg
      have HB2 : Hid (Below w.heap.size w w2) := hb1.trans (hb2.mono hs1)
      clear ho2 HO1 hg hb1 hb2
      go_wp2
      go_loopw [6, 7] (fun v i wr => ∃ (k : Nat) (ao : Option Addr) (m cp : Nat), k ≤ rs.length ∧ i = .int .i64 k ∧ v = .slice ao m cp ∧ Hid (Own wr w1.heap.size (.slice ao m cp) (bs ++ encAll (rs.take k))) ∧ Below w1.heap.size w2 wr) (fun _ i _ => rs.length - (intOf i).toNat)
      case atStart => exact ⟨0, ao2, bs.length, cap2, Nat.zero_le _, rfl, rfl, by simpa [encAll] using HO2, Below.refl _ _⟩
      case round =>
        obtain ⟨k, ao, m, cp, hk, rfl, rfl, HOr, hbr⟩ := hrel
        have hsr := hbr.size
        have HBr : Hid (Below w.heap.size w wr) := HB2.out.trans (hbr.mono hs1)
        by_cases hlt : k < rs.length
        · obtain ⟨g2, o2, he2⟩ := vr.plain (by omega)
          subst he2
          have hc2 := (vr.below HBr.out).cell g2 o2 rfl k hlt
          obtain ⟨x, hx⟩ : ∃ x, x = rs.getD k 0 := ⟨_, rfl⟩
          rw [← hx] at hc2
          have hxm : x ∈ rs := by rw [hx]; simp [hlt]
          have hgr : wr.cell? ⟨0, 0, none⟩ = some (.int .i64 M) := by
            rw [hbr.cell (show 0 < w1.heap.size by omega)]
            exact hg2
          have hll := encAll_length (rs.take k)
          have hlt2 : (rs.take k).length ≤ 65536 := by simp; omega
          have hru := rune_any w1.heap.size _ (bs ++ encAll (rs.take k)) x (HRS.out x hxm) wr HOr.out (by simp only [List.length_append]; omega) (by omega) M hM hgr
          rw [hx, List.append_assoc, ← encAll_snoc rs k hlt, ← hx] at hru
          clear hx hgr hxm hll hlt2
          go_wp2_with fail
          refine hru.mono ?_
          rintro e w4 ⟨v4, rfl, ho4, hb4⟩
          clear hru
          obtain ⟨ao4, cap4, hv4, _, _⟩ := ho4.shape
          obtain ⟨m4, hm4⟩ : ∃ m4, m4 = (bs ++ encAll (rs.take (k + 1))).length := ⟨_, rfl⟩
          rw [← hm4] at hv4
          subst hv4
          have HO4 := hide ho4
          have hb4' : Below w1.heap.size w2 w4 := hbr.trans hb4
          clear ho4 hb4 hm4
          go_wp2
          go_roundw
          case rel => exact ⟨k + 1, ao4, m4, cap4, by omega, by go_num, rfl, HO4, hb4'⟩
          case measure => simp [intOf]; omega
        · obtain rfl : k = rs.length := by omega
          clear hk hlt
          have hX : Own wr w1.heap.size (.slice ao m cp) (bs ++ encAll rs) := by
            have := HOr.out
            rwa [List.take_of_length_le (Nat.le_refl _)] at this
          obtain ⟨_, _, e1, hviewx, _⟩ := hX.shape
          simp only [Value.slice.injEq] at e1
          obtain ⟨rfl, hm, rfl⟩ := e1
          obtain ⟨_, _, e2, hview1, _⟩ := (HO1'.out.under HL1.out hbr).shape
          simp only [Value.slice.injEq, true_and] at e2
          obtain ⟨rfl, rfl⟩ := e2
          have hmc := hX.caps
          have hmb : bs.length ≤ m := by rw [hm]; simp
          have hmu : m ≤ 1073741824 := by
            have := encAll_length rs
            rw [hm, List.length_append]; omega
          have HM := hide hm
          have heq := eq_any ao ao1 cp cap1 bs bs wr (by omega) hviewx.head hview1
          rw [decide_eq_true rfl] at heq
          have HVX := hide hviewx
          clear hm hX hview1 hviewx HOr hbr
          go_wp2_with fail
          refine heq.mono ?_
          rintro e w5 ⟨rfl, q0, rfl⟩
          clear heq
          go_wp2
          go_loopw [8, 9] (fun p i wq => ∃ (k d : Nat), k ≤ rs.length ∧ i = .int .i64 k ∧ p = .int .i64 d ∧ Hid (d = bs.length + (encAll (rs.take k)).length) ∧ ∃ q, wq = wr.drewN q) (fun _ i _ => rs.length - (intOf i).toNat)
          case atStart => exact ⟨0, bs.length, Nat.zero_le _, rfl, rfl, show _ = _ by simp [encAll], q0, rfl⟩
          case round =>
            obtain ⟨k, d, hk, rfl, rfl, HD, q, rfl⟩ := hrel
            by_cases hlt : k < rs.length
            · obtain ⟨g2, o2, he2⟩ := vr.plain (by omega)
              subst he2
              have hc2 := (vr.below HBr.out).cell g2 o2 rfl k hlt
              obtain ⟨x, hx⟩ : ∃ x, x = rs.getD k 0 := ⟨_, rfl⟩
              rw [← hx] at hc2
              have hx0 : 0 ≤ x := by rw [hx]; exact HN.out k hlt
              have hsp := encAll_split rs k hlt
              have hsn := encAll_snoc rs k hlt
              rw [← hx] at hsp hsn
              obtain ⟨l, hl⟩ : ∃ l, l = (enc x).length := ⟨_, rfl⟩
              have hl1 := enc_length x
              have hdm : d + l ≤ m := by rw [HD.out, HM.out, hsp, hl]; simp; omega
              have hplain := HVX.out.plain (by rw [← HM.out]; omega)
              obtain ⟨gx, ox, hex⟩ := hplain
              subst hex
              have hde : ∀ q, Calls Ebng.prog 17 #[.slice (some ⟨gx, ox, none⟩) m cp, .int .i64 d] (wr.drewN q) fun e w' => e = .returned (.tuple #[.int .i32 (dec x), .int .i64 l]) ∧ ∃ q', w' = (wr.drewN q).drewN q' := by
                intro q
                rw [hl]
                refine dec_any gx ox cp m d x hx0 (wr.drewN q) hmu (by omega) (fun j hj => ?_)
                have h1 := HVX.out.cell gx ox rfl (d + j) (by rw [← HM.out]; omega)
                show wr.cell? _ = _
                rw [h1, hsp, HD.out, part_at bs _ _ _ hj]
              have HD2 : Hid (d + l = bs.length + (encAll (rs.take (k + 1))).length) := show _ = _ by rw [hsn, HD.out, hl]; simp; omega
              rw [← hl] at hl1
              clear hx hsp hsn hl
              have hdl : d < m := by omega
              by_cases c1 : 1114111 < x
              · have hdx : dec x = 65533 := by unfold dec; rw [if_pos (.inl c1)]
                rw [hdx] at hde
                clear hdx
                go_wp2_with fail
                refine (hde q).mono ?_
                rintro e w6 ⟨rfl, q6, rfl⟩
                clear hde
                go_wp2
                go_roundw
                case rel => exact ⟨k + 1, d + l, by omega, by go_num, by go_num, HD2, q + q6, rfl⟩
                case measure => simp [intOf]; omega
              by_cases c2 : x < 55296
              · have hdx : dec x = x := by unfold dec; rw [if_neg (by omega)]
                rw [hdx] at hde
                clear hdx
                go_wp2_with fail
                refine (hde q).mono ?_
                rintro e w6 ⟨rfl, q6, rfl⟩
                clear hde
                go_wp2
                go_roundw
                case rel => exact ⟨k + 1, d + l, by omega, by go_num, by go_num, HD2, q + q6, rfl⟩
                case measure => simp [intOf]; omega
              by_cases c3 : x ≤ 57343
              · have hdx : dec x = 65533 := by unfold dec; rw [if_pos (.inr ⟨by omega, c3⟩)]
                rw [hdx] at hde
                clear hdx
                go_wp2_with fail
                refine (hde q).mono ?_
                rintro e w6 ⟨rfl, q6, rfl⟩
                clear hde
                go_wp2
                go_roundw
                case rel => exact ⟨k + 1, d + l, by omega, by go_num, by go_num, HD2, q + q6, rfl⟩
                case measure => simp [intOf]; omega
              · have hdx : dec x = x := by unfold dec; rw [if_neg (by omega)]
                rw [hdx] at hde
                clear hdx
                go_wp2_with fail
                refine (hde q).mono ?_
                rintro e w6 ⟨rfl, q6, rfl⟩
                clear hde
                go_wp2
                go_roundw
                case rel => exact ⟨k + 1, d + l, by omega, by go_num, by go_num, HD2, q + q6, rfl⟩
                case measure => simp [intOf]; omega
            · obtain rfl : k = rs.length := by omega
              have hdm : ((d : Int) == (m : Int)) = true := by
                have h1 := HD.out
                rw [List.take_of_length_le (Nat.le_refl _), ← List.length_append, ← HM.out] at h1
                simp [h1]
              clear hk hlt
              go_wp2
              go_ret
              exact ⟨rfl, below_drewN HBr.out q⟩

/-- The law FnWriteRuneDecodesBack, at every input. -/
theorem lawD_any (bo : Option Addr) (bc : Nat) (bs : List Int) (ro : Option Addr) (rc : Nat) (rs : List Int) (w : World)
    (vb : View .u8 w bo bs) (hbc : bo = none → bc = 0) (vr : View .i32 w ro rs) (hrs : ∀ x ∈ rs, x ≤ 2147483647) (M : Int) (hM : 1073741824 < M) (hg : w.cell? ⟨0, 0, none⟩ = some (.int .i64 M)) :
    Calls Ebng.prog 6 #[.slice bo bs.length bc, .slice ro rs.length rc] w fun e w' => e = .returned (.bool true) ∧ Below w.heap.size w w' := by
  by_cases h1 : bs.length ≤ 1048576
  · by_cases h2 : rs.length ≤ 1048576
    · by_cases h3 : bs.length + rs.length ≤ 1048576
      · by_cases h4 : bs.length ≤ 524288 ∧ rs.length ≤ 65536
        · exact lawD_main bo bc bs ro rc rs w h4.1 h4.2 vb hbc vr hrs M hM hg
        · exact lawD_l4 bo _ bc ro _ rc w h3 (by omega)
      · exact lawD_l3 bo _ bc ro _ rc w h1 h2 (by omega)
    · exact lawD_l2 bo _ bc ro _ rc w h1 (by omega)
  · exact lawD_l1 bo _ bc ro _ rc w (by omega)

end Go.Proofs.YoebnwDoor
