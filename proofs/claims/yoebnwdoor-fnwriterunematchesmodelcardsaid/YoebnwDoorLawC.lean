/-
  OUR OWN WORK. THE WALK of the law FnWriteRuneMatchesModel (5).
-/
import Derived.Test.YoebnwDoorModel
import Derived.Test.YoebnwDoorViews
namespace Go.Proofs.YoebnwDoor
open Go.RowKit

set_option maxHeartbeats 400000 in
theorem lawC_long (ao : Option Addr) (n cap : Nat) (r : Int) (w : World) (hn : 1048576 < n) :
    Calls Ebng.prog 5 #[.slice ao n cap, .int .i32 r] w fun e w' => e = .returned (.bool true) ∧ Below w.heap.size w w' := by
  go_enter Ebng.func5, Ebng.ntmps5
  go_wp2
  go_ret
  exact ⟨rfl, Below.refl _ _⟩

theorem bytesC_ok (v : Value) (ao : Option Addr) (n cap : Nat) (w : World) (hn : n ≤ 1048576) : Calls Ebng.prog 13 #[.slice ao n cap, v] w fun e w' => e = .returned (.bool true) ∧ w = w' := by
  go_enter Ebng.func13, Ebng.ntmps13
  go_wp2
  go_ret
  exact ⟨rfl, rfl⟩

set_option maxHeartbeats 1000000 in
theorem lawC_short (ao : Option Addr) (cap : Nat) (bs : List Int) (r : Int) (hr : r ≤ 2147483647) (w : World) (hz : bs.length ≤ 1048576) (hv : View .u8 w ao bs) (hc0 : ao = none → cap = 0) (M : Int) (hM : 1073741824 < M) (hg : w.cell? ⟨0, 0, none⟩ = some (.int .i64 M)) :
    Calls Ebng.prog 5 #[.slice ao bs.length cap, .int .i32 r] w fun e w' => e = .returned (.bool true) ∧ Below w.heap.size w w' := by
  have hgs : 0 < w.heap.size := World.block_lt_of_cell? w _ hg
  have hcl := clone_any ao cap bs w hz hv hc0
  have hel := enc_length r
  have HR := hide hr
  clear hc0 hv hr
  go_enter Ebng.func5, Ebng.ntmps5
  go_wp2_with (first
    | (go_at_call 13; refine (bytesC_ok _ _ _ _ _ hz).mono ?_; rintro e w' ⟨rfl, rfl⟩)
    | fail)
  refine hcl.mono ?_
  rintro e w1 ⟨v1, rfl, ho1, hb1⟩
  clear hcl
  obtain ⟨ao1, cap1, hv1, hview1, hcap1⟩ := ho1.shape
  subst hv1
  have hcl1 := clone_any ao1 cap1 bs w1 hz hview1 hcap1
  have HO1 := hide ho1
  clear ho1 hview1 hcap1
  go_wp2_with fail
  refine hcl1.mono ?_
  rintro e w2 ⟨v2, rfl, ho2, hb2⟩
  clear hcl1
  have hs12 := hb1.size
  have hs23 := hb2.size
  have hg2 : w2.cell? ⟨0, 0, none⟩ = some (.int .i64 M) := by
    rw [hb2.cell (show 0 < w1.heap.size by omega), hb1.cell hgs]
    exact hg
  have hru := rune_any w1.heap.size v2 bs r HR.out w2 ho2 (by omega) hs23 M hM hg2
  clear ho2 hg2
  go_wp2_with fail
  refine hru.mono ?_
  rintro e w3 ⟨v3, rfl, ho3, hb3⟩
  clear hru
  have hs34 := hb3.size
  have ho1' : Own w3 w.heap.size (.slice ao1 bs.length cap1) bs := (HO1.out.below hb2).under (fun k hk => (World.ownsRow.lt HO1.out k hk).2) hb3
  have HO1' := hide ho1'
  have HO3 := hide ho3
  have hmo := model_any r HR.out w3
  clear ho1' ho3 HO1
  go_wp2_with fail
  refine hmo.mono ?_
  rintro e w4 ⟨v4, rfl, ho4, hb4⟩
  clear hmo
  obtain ⟨ao4, cap4, hv4, hview4, _⟩ := ho4.shape
  obtain ⟨ao3, cap3, hv3, hview3, _⟩ := (HO3.out.below hb4).shape
  obtain ⟨_, _, e1, hview1, _⟩ := (HO1'.out.below hb4).shape
  simp only [Value.slice.injEq, true_and] at e1
  obtain ⟨rfl, rfl⟩ := e1
  obtain ⟨g3, o3, he3⟩ := hview3.plain (by simp; omega)
  rw [List.length_append] at hv3
  subst he3
  subst hv3
  subst hv4
  have hle3 := HO3.out.caps
  obtain ⟨m, hm⟩ : ∃ m, m = (enc r).length := ⟨_, rfl⟩
  have heq1 := eq_any (some ⟨g3, o3, none⟩) ao1 cap3 cap1 bs bs w4 (by omega) hview3.head hview1
  have heq2 := fun q => eq_any (some ⟨g3, o3 + bs.length, none⟩) ao4 (cap3 - bs.length) cap4 (enc r) (enc r) (w4.drewN q) (by omega) (hview3.rest.drewN q) (hview4.drewN q)
  rw [decide_eq_true rfl] at heq1
  rw [decide_eq_true rfl] at heq2
  rw [← hm] at heq2 hel hle3 ⊢
  have hB4 : Below w.heap.size w w4 := (hb1.trans (hb2.mono hs12)).trans ((hb3.mono hs12).trans (hb4.mono (by omega)))
  clear hm ho4 hview4 hview3 hview1 HO3 HO1' hb1 hb2 hb3 hb4
  go_wp2_with fail
  refine heq1.mono ?_
  rintro e w5 ⟨rfl, q, rfl⟩
  clear heq1
  go_wp2_with fail
  refine (heq2 q).mono ?_
  rintro e w6 ⟨rfl, q2, rfl⟩
  clear heq2
  go_wp2
  go_ret
  exact ⟨rfl, below_drewN hB4 (q + q2)⟩

/-- The law FnWriteRuneMatchesModel, at every input. -/
theorem lawC_any (ao : Option Addr) (cap : Nat) (bs : List Int) (r : Int) (hr : r ≤ 2147483647) (w : World) (hv : View .u8 w ao bs) (hc0 : ao = none → cap = 0) (M : Int) (hM : 1073741824 < M) (hg : w.cell? ⟨0, 0, none⟩ = some (.int .i64 M)) :
    Calls Ebng.prog 5 #[.slice ao bs.length cap, .int .i32 r] w fun e w' => e = .returned (.bool true) ∧ Below w.heap.size w w' := by
  by_cases hz : bs.length ≤ 1048576
  · exact lawC_short ao cap bs r hr w hz hv hc0 M hM hg
  · exact lawC_long ao bs.length cap r w (by omega)

end Go.Proofs.YoebnwDoor
