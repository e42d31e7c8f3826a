/-
  OUR OWN WORK. What the four rows' steps share: closed facts on the two package-level variables, what the condition 'laid' gives the walks, the named variables read again, a slice argument's view.
-/
import Derived.Test.YoebnwDoorBase
import Derived.ProofKit
import Derived.OpenShut
import Derived.LaidMore
import Derived.ChangeOld
import Derived.Stop.Joined
namespace Go.Proofs.YoebnwDoor
open Go.ChangeShapes Go.WideShapes Go.ChangeAt Go.RowKit

theorem own : ownKnob Ebng.prog.godebug = none := by kernel_rfl
theorem laidOut : laidOutB Ebng.prog = true := by kernel_rfl

/-- The two variables' names, off the given specification. -/
def nMax : String := match Rows.fnWriteSingleByteAppendsSpec.vars with | [a, _] => a | _ => default
def nErr : String := match Rows.fnWriteSingleByteAppendsSpec.vars with | [_, b] => b | _ => default
/-- The listed data, off the given row. -/
def laidL : List (String × DataW Unit) := Rows.fnWriteSingleByteAppendsRow.laid

theorem gMax : Ebng.prog.globalNamed nMax = some 0 := by kernel_rfl
theorem gErr : Ebng.prog.globalNamed nErr = some 1 := by kernel_rfl
theorem tMax : (Ebng.prog.globals[0]?).map (·.type) = some 3 := by kernel_rfl
theorem tErr : (Ebng.prog.globals[1]?).map (·.type) = some 42 := by kernel_rfl

/-- The door's own heap meets the condition. -/
theorem door_met (os : Os) (args : Array Value) : laidMetH Ebng.prog laidL ((World.doorLaid Ebng.prog 32 os).forCall (fun _ _ => 0) ⟨#[], args, []⟩).memory :=
  laidMetH_of_parts3 (fuel := 8) (laidMet_of_run' 8 (by kernel_rfl) (by kernel_rfl)) (by kernel_rfl) (by kernel_rfl)

/-- WHAT THE CONDITION GIVES THE WALKS: MaxStringLen's cell. -/
theorem of_laid {W : World} (h : laidMetH Ebng.prog laidL W) : W.cell? ⟨0, 0, none⟩ = some (.int .i64 2147483647) := by
  rw [MakeChecks.laidMetH_plain _ _ _ (by kernel_rfl)] at h
  have h2 : laidMet Ebng.prog [(nErr, Rows.laid_github_com_d5_tengo_v2_ErrStringLimit), (nMax, Rows.laid_github_com_d5_tengo_v2_MaxStringLen)] W := h
  obtain ⟨ps, ⟨g0, t0, cs0, f0, p0, q0, _, _, _, _, ⟨g1, t1, cs1, f1, p1, q1, hg1, ht1, hv1, hd1, _, _⟩, _⟩, _, _⟩ := h2
  obtain rfl := Option.some.inj (gMax.symm.trans hg1)
  obtain rfl := Option.some.inj (tMax.symm.trans ht1)
  obtain ⟨n, e1, e2, _⟩ := DataW.trod_int Ebng.underlying3 hd1
  have hn : n = 2147483647 := by
    simp only [Prod.mk.injEq, Rows.laid_github_com_d5_tengo_v2_MaxStringLen, DataW.lit.injEq, Lit.int.injEq, true_and] at e2
    exact e2.1.symm
  subst hn
  have := World.var?_cell hg1 hv1 0
  rw [Array.eq_one_of_toList e1] at this
  simpa using this

/-- THE NAMED VARIABLES, OPENED AND READ AGAIN BEHIND THE CALL. -/
theorem vars_again {H : Type} {enc : TypeId × Value → H} {W : World} {gs : List (DataW H)} {q : List MemPlace} (hV : DataW.TrodVars enc Ebng.prog W (fun _ => true) [nMax, nErr] gs q) :
    ∃ g1 g2, gs = [g1, g2] ∧ ∀ (W' : World) (sp : Nat → Bool), Below W.heap.size W W' → DataW.TrodVars enc Ebng.prog W' sp [nMax, nErr] [g1, g2] [.cell 0 0, .cell 1 0] := by
  obtain ⟨g0, t0, cs0, f0, d0, p0, g1, t1, cs1, f1, d1, p1, rfl, hg0, ht0, hv0, hd0, hg1, ht1, hv1, hd1, _⟩ := trodVars_two hV
  obtain rfl := Option.some.inj (gMax.symm.trans hg0)
  obtain rfl := Option.some.inj (tMax.symm.trans ht0)
  obtain rfl := Option.some.inj (gErr.symm.trans hg1)
  obtain rfl := Option.some.inj (tErr.symm.trans ht1)
  obtain ⟨n, e1, e2, hw⟩ := DataW.trod_int Ebng.underlying3 hd0
  obtain ⟨x, rfl, hx, rfl, rfl, hc1⟩ := token_of gErr Ebng.underlying42 hv1 hd1
  simp only [Prod.mk.injEq] at e2
  obtain ⟨rfl, rfl⟩ := e2
  have ecs := Array.eq_one_of_toList e1
  subst ecs
  have hc0 := World.var?_cell hg0 hv0 0
  have l0 : 0 < W.heap.size := World.block_lt_of_cell? W ⟨0, 0, none⟩ (u := .int .i64 n) (by simpa using hc0)
  have l1 : 1 < W.heap.size := World.block_lt_of_cell? W ⟨1, 0, none⟩ hc1
  refine ⟨_, _, rfl, fun W' sp hb => ?_⟩
  exact ⟨0, 3, #[.int .i64 n], 1, [], [.cell 1 0], gMax, tMax, var?_below hb gMax l0 hv0, by simp [DataW.trod, Ebng.underlying3, hw], ⟨1, 42, #[x], 1, [], [], gErr, tErr, var?_below hb gErr l1 hv1, trod_held Ebng.underlying42 hx 0, rfl, rfl⟩, rfl⟩

/-- A SLICE ARGUMENT's VIEW: its numbers, its cells. -/
theorem view_of_trod {H : Type} {enc : TypeId × Value → H} {W : World} {t e : TypeId} {k : IntKind} {ao : Option Addr} {len cap : Nat} {d : DataW H} {p : List MemPlace} (ht : Ebng.prog.underlying t = some (.slice e)) (he : Ebng.prog.underlying e = some (.int k)) (hc : Ebng.prog.cellsOf e = 1)
    (h : DataW.Trod enc Ebng.prog W 0 (fun _ => true) true t (.slice ao len cap) d p) :
    ∃ zs : List Int, zs.length = len ∧ View k W ao zs ∧ (ao = none → cap = 0) ∧ ∀ n ∈ zs, (Lit.int k n).wf = true := by
  obtain ⟨fuel, hf⟩ := h
  rcases open_ints ht he hc hf with ⟨hcs, _⟩ | ⟨x, l, c, zs, hcs, _, hl, hm, hz, _, hcell, hwz⟩
  · simp [Value.cells] at hcs
    obtain ⟨rfl, rfl, rfl⟩ := hcs
    exact ⟨[], rfl, ⟨fun _ => rfl, fun b off e => (by cases e), fun h => (by simp at h)⟩, fun _ => rfl, fun n hn => (by cases hn)⟩
  · simp [Value.cells] at hcs
    obtain ⟨rfl, rfl, rfl⟩ := hcs
    simp only [if_true] at hz
    have hlen : (zs.take len).length = len := by simp; omega
    refine ⟨zs.take len, hlen, ⟨fun e => (by cases e), fun b off e j hj => ?_, fun h0 => ?_⟩, fun e => (by cases e), fun n hn => hwz n (List.mem_of_mem_take hn)⟩
    · obtain rfl : x = ⟨b, off, none⟩ := by simpa using e
      have h1 := hcell j (by omega)
      rw [add_plain] at h1
      rw [h1]
      have : j < len := by omega
      simp [this]
    · obtain ⟨b, off, spot⟩ := x
      have hspot : spot = none := by simpa [Addr.add] using World.cell?_spot (hcell 0 (by omega))
      subst hspot
      exact ⟨b, off, rfl⟩

end Go.Proofs.YoebnwDoor
