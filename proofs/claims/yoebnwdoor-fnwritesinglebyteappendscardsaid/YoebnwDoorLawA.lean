/-
  OUR OWN WORK. THE WALK of the law FnWriteSingleByteAppends (3).
-/
import Derived.Test.YoebnwDoorWrite
namespace Go.Proofs.YoebnwDoor
open Go.RowKit

set_option maxHeartbeats 400000 in
theorem lawA_long (ao : Option Addr) (n cap : Nat) (c : Int) (w : World) (hn : 1048576 < n) :
    Calls Ebng.prog 3 #[.slice ao n cap, .int .u8 c] w fun e w' => e = .returned (.bool true) ∧ Below w.heap.size w w' := by
  go_enter Ebng.func3, Ebng.ntmps3
  go_wp2
  go_ret
  exact ⟨rfl, Below.refl _ _⟩

theorem bytesA_ok (v : Value) (ao : Option Addr) (n cap : Nat) (w : World) (hn : n ≤ 1048576) : Calls Ebng.prog 7 #[.slice ao n cap, v] w fun e w' => e = .returned (.bool true) ∧ w = w' := by
  go_enter Ebng.func7, Ebng.ntmps7
  go_wp2
  go_ret
  exact ⟨rfl, rfl⟩

/-- The head of an owned slice, cut at 'n': the bytes ahead of the cut. -/
theorem view_take {w : World} {ao : Option Addr} {xs ys : List Int} (h : View .u8 w ao (xs ++ ys)) : View .u8 w ao xs :=
  ⟨fun e => by have := h.none e; simp at this; simp [this.1], fun b off e j hj => by
    have := h.cell b off e j (by simp; omega)
    rwa [show (xs ++ ys).getD j 0 = xs.getD j 0 from by simp [List.getElem?_append_left hj]] at this,
   fun h0 => h.plain (by simp; omega)⟩

set_option maxHeartbeats 400000 in
theorem lawA_short (ao : Option Addr) (cap : Nat) (zs : List Int) (c : Int) (w : World) (hz : zs.length ≤ 1048576) (hv : View .u8 w ao zs) (hc0 : ao = none → cap = 0) (M : Int) (hM : 1073741824 < M) (hg : w.cell? ⟨0, 0, none⟩ = some (.int .i64 M)) :
    Calls Ebng.prog 3 #[.slice ao zs.length cap, .int .u8 c] w fun e w' => e = .returned (.bool true) ∧ Below w.heap.size w w' := by
  have hgs : 0 < w.heap.size := World.block_lt_of_cell? w _ hg
  have hcl := clone_any ao cap zs w hz hv hc0
  have HV : Hid (ao = none → cap = 0) := hc0
  clear hc0 hv
  go_enter Ebng.func3, Ebng.ntmps3
  go_wp2_with (first
    | (go_at_call 7; refine (bytesA_ok _ _ _ _ _ hz).mono ?_; rintro e w' ⟨rfl, rfl⟩)
    | fail)
  refine hcl.mono ?_
  rintro e w1 ⟨v1, rfl, ho1, hb1⟩
  clear hcl
  obtain ⟨ao1, cap1, hv1, hview1, hcap1⟩ := ho1.shape
  subst hv1
  have hcl1 := clone_any ao1 cap1 zs w1 hz hview1 hcap1
  have HO1 : Hid (Own w1 w.heap.size (.slice ao1 zs.length cap1) zs) := ho1
  clear ho1 hview1 hcap1
  go_wp2_with fail
  refine hcl1.mono ?_
  rintro e w2 ⟨v2, rfl, ho2, hb2⟩
  clear hcl1
  have hs12 := hb1.size
  have hs23 := hb2.size
  have hg2 : w2.cell? ⟨0, 0, none⟩ = some (.int .i64 M) := by
    rw [hb2.cell (show 0 < w1.heap.size by omega), hb1.cell hgs]
    exact hg
  have hby := byte_any w.heap.size _ zs c w2 (HO1.out.below hb2) (by omega) (by omega) M hM hg2
  have HO2 : Hid (Own w2 w1.heap.size v2 zs) := ho2
  clear ho2 hg2
  go_wp2_with fail
  refine hby.mono ?_
  rintro e w3 ⟨v3, rfl, ho3, hg3⟩
  clear hby
  have ho2' : Own w3 w1.heap.size v2 zs := HO2.out.apart hg3 (fun k hk e => by
    have h1 := (World.ownsRow.lt HO2.out k hk).1
    have h2 := (World.ownsRow.lt HO1.out k e).2
    omega)
  have HB3 : Hid (Below w.heap.size w w3) := ((hb1.trans (hb2.mono hs12)).grown hg3 (by omega) (fun k hk => (World.ownsRow.lt HO1.out k hk).1))
  obtain ⟨ao2, cap2, hv2, hview2, hcap2⟩ := ho2'.shape
  obtain ⟨ao3, cap3, hv3, hview3, hcap3⟩ := ho3.shape
  obtain ⟨g3, o3, he3⟩ := hview3.plain (by simp)
  have hcl3 : (zs ++ [c]).length = zs.length + 1 := by simp
  rw [hcl3] at hv3
  subst he3
  subst hv2
  subst hv3
  have hle3 : zs.length + 1 ≤ cap3 := by
    rcases ho3.2 with ⟨h, _⟩ | ⟨g, cp, cur, h, _, _, h', _⟩
    · cases h
    · simp at h h'; omega
  have heq := eq_any (some ⟨g3, o3, none⟩) ao2 cap3 cap2 zs zs w3 (by omega) (view_take hview3) hview2
  rw [decide_eq_true rfl] at heq
  have hcc := hview3.cell g3 o3 rfl zs.length (by simp)
  simp at hcc
  clear ho2' ho3 hview2 hview3 hcap2 hcap3 hcl3 hg3
  go_wp2_with fail
  refine heq.mono ?_
  rintro e w4 ⟨rfl, q, rfl⟩
  clear heq
  go_wp2
  go_ret
  exact ⟨rfl, below_drewN HB3.out q⟩

/-- The law FnWriteSingleByteAppends, at every input. -/
theorem lawA_any (ao : Option Addr) (cap : Nat) (zs : List Int) (c : Int) (w : World) (hv : View .u8 w ao zs) (hc0 : ao = none → cap = 0) (M : Int) (hM : 1073741824 < M) (hg : w.cell? ⟨0, 0, none⟩ = some (.int .i64 M)) :
    Calls Ebng.prog 3 #[.slice ao zs.length cap, .int .u8 c] w fun e w' => e = .returned (.bool true) ∧ Below w.heap.size w w' := by
  by_cases hz : zs.length ≤ 1048576
  · exact lawA_short ao cap zs c w hz hv hc0 M hM hg
  · exact lawA_long ao zs.length cap c w (by omega)

end Go.Proofs.YoebnwDoor
